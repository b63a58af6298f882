import PyProof.Rows.All
import Wide.All
import OpenK.AllK
import Wide.FinOn
import Lean
import PySem.Challenge.RW_dm0271_05
set_option Elab.async false
set_option maxRecDepth 100000
set_option maxHeartbeats 20000000
set_option linter.unusedVariables false
set_option rowWalk.seconds 0
section
namespace Mine
/-! bounds of the logarithm without a logarithm: lists of factors -/
theorem rlt_or_le (a b : Rat) : a < b ∨ b ≤ a := by
  by_cases h : a < b
  · exact Or.inl h
  · exact Or.inr (Rat.not_lt.mp h)
theorem rmul_pow (a b : Rat) : ∀ n : Nat, (a * b) ^ n = a ^ n * b ^ n
  | 0 => by simp only [Rat.pow_zero, Rat.mul_one]
  | n + 1 => by rw [Rat.pow_succ, Rat.pow_succ, Rat.pow_succ, rmul_pow a b n]; grind
theorem rsq_nonneg (x : Rat) : 0 ≤ x * x := by
  rcases rlt_or_le x 0 with h | h
  · have := Rat.mul_nonneg (show 0 ≤ -x by grind) (show 0 ≤ -x by grind)
    grind
  · exact Rat.mul_nonneg h h
theorem fld1 {n B A t : Rat} (hA : 0 < A) (e2 : (n + 1) * B = n * A + t) : 1 + (n + 1) * (B / A - 1) = t / A := by
  have h : A ≠ 0 := by grind
  have : (n + 1) * (B / A - 1) = ((n + 1) * B - (n + 1) * A) / A := by grind
  rw [this, e2]
  grind
theorem fld2 {t A P : Rat} (hA : 0 < A) : t / A * (P * A) = t * P := by
  have h : A ≠ 0 := by grind
  grind
theorem fld3 {A B : Rat} (hA : 0 < A) : B / A * A = B := by
  have h : A ≠ 0 := by grind
  grind
def pr : List Rat → Rat
  | [] => 1
  | t :: r => t * pr r
def sm : List Rat → Rat
  | [] => 0
  | t :: r => (t - 1) + sm r
theorem pr_append (a b : List Rat) : pr (a ++ b) = pr a * pr b := by
  induction a with
  | nil => simp [pr, Rat.one_mul]
  | cons t r ih => simp only [List.cons_append, pr, ih]; grind
theorem sm_append (a b : List Rat) : sm (a ++ b) = sm a + sm b := by
  induction a with
  | nil => simp [sm, Rat.zero_add]
  | cons t r ih => simp only [List.cons_append, sm, ih]; grind
theorem pr_pos {a : List Rat} (h : ∀ t ∈ a, 0 < t) : 0 < pr a := by
  induction a with
  | nil => simp only [pr]; decide
  | cons t r ih =>
    simp only [pr]
    exact Rat.mul_pos (h t (by simp)) (ih fun u hu => h u (by simp [hu]))
theorem bern (x : Rat) (hx : -1 ≤ x) : ∀ n : Nat, 1 + n * x ≤ (1 + x) ^ n
  | 0 => by simp only [Rat.pow_zero]; grind
  | n + 1 => by
    have ih := bern x hx n
    have h1 : 0 ≤ ((1 + x) ^ n - (1 + n * x)) * (1 + x) := Rat.mul_nonneg (by grind) (by grind)
    have h2 : 0 ≤ (n : Rat) * (x * x) := by
      exact Rat.mul_nonneg (by exact Rat.natCast_nonneg) (rsq_nonneg x)
    rw [Rat.pow_succ]
    push_cast
    grind
theorem rpow_pos {x : Rat} (h : 0 < x) (n : Nat) : 0 < x ^ n := Rat.pow_pos h
/-- the mean of a list, to its length, is no less than the product -/
theorem amgm1 (a : List Rat) (h : ∀ t ∈ a, 0 < t) (hn : a ≠ []) : pr a ≤ (1 + sm a / a.length) ^ a.length ∧ 0 < 1 + sm a / a.length := by
  induction a with
  | nil => exact absurd rfl hn
  | cons t r ih =>
    by_cases hr : r = []
    · subst hr
      simp only [pr, sm, List.length_cons, List.length_nil, Rat.pow_succ, Rat.pow_zero]
      have := h t (by simp)
      push_cast
      constructor <;> grind
    · obtain ⟨ih1, ih2⟩ := ih (fun u hu => h u (by simp [hu])) hr
      have ht := h t (by simp)
      have hl : 0 < r.length := by
        cases r with
        | nil => exact absurd rfl hr
        | cons => simp
      have hlq : (0 : Rat) < r.length := by exact_mod_cast hl
      -- A: the mean of r, B: the mean of all; (n + 1) B = n A + t
      generalize hA : 1 + sm r / r.length = A at *
      have e1 : sm r = r.length * (A - 1) := by
        rw [← hA]; grind
      simp only [pr, sm, List.length_cons]
      generalize hB : 1 + (t - 1 + sm r) / ((r.length + 1 : Nat) : Rat) = B
      have hnq : (0 : Rat) < ((r.length + 1 : Nat) : Rat) := by push_cast; grind
      have e2 : ((r.length + 1 : Nat) : Rat) * B = r.length * A + t := by
        rw [← hB, e1]
        have : ((r.length + 1 : Nat) : Rat) * (1 + (t - 1 + r.length * (A - 1)) / ((r.length + 1 : Nat) : Rat)) = ((r.length + 1 : Nat) : Rat) + (t - 1 + r.length * (A - 1)) := by grind
        rw [this]; push_cast; grind
      have hB0 : 0 < B := by
        have h1 : 0 < r.length * A + t := by
          have := Rat.mul_pos hlq ih2; grind
        rw [← e2] at h1
        rcases rlt_or_le 0 B with h2 | h2
        · exact h2
        · exfalso
          have := Rat.mul_nonneg (Rat.le_of_lt hnq) (show 0 ≤ -B by grind)
          grind
      refine ⟨?_, hB0⟩
      -- (B / A)^(n+1) ≥ 1 + (n+1) (B/A - 1) = t / A
      have b1 := bern (B / A - 1) (by
        have : 0 < B / A := by rw [Rat.div_def]; exact Rat.mul_pos hB0 (Rat.inv_pos.mpr ih2)
        grind) (r.length + 1)
      have e3 : 1 + ((r.length + 1 : Nat) : Rat) * (B / A - 1) = t / A := by
        push_cast at e2 ⊢
        exact fld1 ih2 e2
      rw [e3, show 1 + (B / A - 1) = B / A by grind] at b1
      have hAn := rpow_pos ih2 r.length
      have hAn1 := rpow_pos ih2 (r.length + 1)
      have e4 : (B / A) ^ (r.length + 1) * A ^ (r.length + 1) = B ^ (r.length + 1) := by
        rw [← rmul_pow, fld3 ih2]
      have b2 := Rat.mul_le_mul_of_nonneg_right b1 (Rat.le_of_lt hAn1)
      rw [e4] at b2
      have e5 : t / A * A ^ (r.length + 1) = t * A ^ r.length := by rw [Rat.pow_succ]; exact fld2 ih2
      rw [e5] at b2
      have b3 := Rat.mul_le_mul_of_nonneg_left ih1 (Rat.le_of_lt ht)
      grind
theorem amgm (a : List Rat) (h : ∀ t ∈ a, 0 < t) (h1 : 1 ≤ pr a) : 0 ≤ sm a := by
  by_cases hr : a = []
  · subst hr; simp [sm]
  · obtain ⟨h2, h3⟩ := amgm1 a h hr
    have hl : 0 < a.length := by
      cases a with
      | nil => exact absurd rfl hr
      | cons => simp
    have hlq : (0 : Rat) < a.length := by exact_mod_cast hl
    rcases rlt_or_le (sm a) 0 with h4 | h4
    · exfalso
      have h5 : 1 + sm a / a.length < 1 := by
        have : sm a / a.length < 0 := by
          rw [Rat.div_lt_iff hlq]; grind
        grind
      have h6 : (1 + sm a / a.length) ^ a.length < 1 := by
        generalize 1 + sm a / (a.length : Rat) = A at *
        have key : ∀ n : Nat, 0 < n → A ^ n < 1 := by
          intro n
          induction n with
          | zero => intro h; omega
          | succ n ih =>
            intro _
            rcases Nat.eq_zero_or_pos n with e | e
            · subst e; rw [Rat.pow_succ, Rat.pow_zero]; grind
            · have := ih e
              have hp := rpow_pos h3 n
              have h7 := Rat.mul_lt_mul_of_pos_left h5 hp
              rw [Rat.pow_succ]; grind
        exact key _ hl
      grind
    · exact h4

/-- r ≤ log q, up to every e -/
def Lg (r q : Rat) : Prop := ∀ e : Rat, 0 < e → ∃ a : List Rat, (∀ t ∈ a, 0 < t) ∧ 1 ≤ q * pr a ∧ r - e ≤ -sm a
/-- log q ≤ r, up to every e -/
def Ug (r q : Rat) : Prop := ∀ e : Rat, 0 < e → ∃ a : List Rat, (∀ t ∈ a, 0 < t) ∧ q ≤ pr a ∧ sm a ≤ r + e
theorem Lg.le {r s q : Rat} (h : Lg r q) (k : Ug s q) : r ≤ s := by
  rcases rlt_or_le s r with h1 | h1
  · exfalso
    obtain ⟨a, a1, a2, a3⟩ := h ((r - s) / 4) (by grind)
    obtain ⟨b, b1, b2, b3⟩ := k ((r - s) / 4) (by grind)
    have h2 : 1 ≤ pr (a ++ b) := by
      rw [pr_append]
      have := Rat.mul_le_mul_of_nonneg_right b2 (Rat.le_of_lt (pr_pos a1))
      grind
    have h3 := amgm (a ++ b) (by intro t ht; rcases List.mem_append.mp ht with h | h; exact a1 t h; exact b1 t h) h2
    rw [sm_append] at h3
    grind
  · exact h1
theorem Lg.add {r s q t : Rat} (h : Lg r q) (k : Lg s t) : Lg (r + s) (q * t) := by
  intro e he
  obtain ⟨a, a1, a2, a3⟩ := h (e / 2) (by grind)
  obtain ⟨b, b1, b2, b3⟩ := k (e / 2) (by grind)
  refine ⟨a ++ b, by intro t ht; rcases List.mem_append.mp ht with h | h; exact a1 t h; exact b1 t h, ?_, ?_⟩
  · rw [pr_append]
    have h1 : 0 ≤ t * pr b - 1 := by grind
    have h2 : 0 ≤ q * pr a - 1 := by grind
    have := Rat.mul_nonneg h1 h2
    grind
  · rw [sm_append]; grind
theorem Ug.add {r s q t : Rat} (ht : 0 < t) (h : Ug r q) (k : Ug s t) : Ug (r + s) (q * t) := by
  intro e he
  obtain ⟨a, a1, a2, a3⟩ := h (e / 2) (by grind)
  obtain ⟨b, b1, b2, b3⟩ := k (e / 2) (by grind)
  refine ⟨a ++ b, by intro t ht; rcases List.mem_append.mp ht with h | h; exact a1 t h; exact b1 t h, ?_, ?_⟩
  · rw [pr_append]
    have h1 := Rat.mul_nonneg (show 0 ≤ pr a - q by grind) (Rat.le_of_lt ht)
    have h2 := Rat.mul_nonneg (Rat.le_of_lt (pr_pos a1)) (show 0 ≤ pr b - t by grind)
    grind
  · rw [sm_append]; grind
theorem Lg.mono {r s q t : Rat} (h : Lg r q) (hs : s ≤ r) (hq : q ≤ t) : Lg s t := by
  intro e he
  obtain ⟨a, a1, a2, a3⟩ := h e he
  refine ⟨a, a1, ?_, by grind⟩
  have := Rat.mul_le_mul_of_nonneg_right hq (Rat.le_of_lt (pr_pos a1))
  grind
theorem Ug.mono {r s q t : Rat} (h : Ug r q) (hs : r ≤ s) (hq : t ≤ q) : Ug s t := by
  intro e he
  obtain ⟨a, a1, a2, a3⟩ := h e he
  exact ⟨a, a1, by grind, by grind⟩
theorem Lg.lim {r q : Rat} (h : ∀ e : Rat, 0 < e → Lg (r - e) q) : Lg r q := by
  intro e he
  obtain ⟨a, a1, a2, a3⟩ := h (e / 2) (by grind) (e / 2) (by grind)
  exact ⟨a, a1, a2, by grind⟩
theorem Ug.lim {r q : Rat} (h : ∀ e : Rat, 0 < e → Ug (r + e) q) : Ug r q := by
  intro e he
  obtain ⟨a, a1, a2, a3⟩ := h (e / 2) (by grind) (e / 2) (by grind)
  exact ⟨a, a1, a2, by grind⟩
/-- 1 - t ≤ log q where 1 / t ≤ q -/
theorem Lg.basic {t q : Rat} (ht : 0 < t) (h : 1 ≤ q * t) : Lg (1 - t) q := by
  intro e he
  refine ⟨[t], by simpa using ht, by simpa [pr, Rat.mul_one] using h, ?_⟩
  simp only [sm]; grind
theorem Ug.basic {q : Rat} (hq : 0 < q) : Ug (q - 1) q := by
  intro e he
  refine ⟨[q], by simpa using hq, ?_, ?_⟩
  · simp only [pr]; grind
  · simp only [sm]; grind
theorem Lg.zero : Lg 0 1 := (Lg.basic (t := 1) (q := 1) (by grind) (by grind)).mono (by grind) (by grind)
theorem Ug.zero : Ug 0 1 := (Ug.basic (q := 1) (by grind)).mono (by grind) (by grind)
theorem Lg.pow {r q : Rat} (h : Lg r q) : ∀ n : Nat, Lg (n * r) (q ^ n)
  | 0 => Lg.zero.mono (by simp [Rat.zero_mul]) (by simp [Rat.pow_zero])
  | n + 1 => by
    refine (Lg.add (Lg.pow h n) h).mono ?_ ?_
    · push_cast; grind
    · rw [Rat.pow_succ]; grind
theorem Ug.pow {r q : Rat} (hq : 0 < q) (h : Ug r q) : ∀ n : Nat, Ug (n * r) (q ^ n)
  | 0 => Ug.zero.mono (by simp [Rat.zero_mul]) (by simp [Rat.pow_zero])
  | n + 1 => by
    refine (Ug.add hq (Ug.pow hq h n) h).mono ?_ ?_
    · push_cast; grind
    · rw [Rat.pow_succ]; grind
end Mine

end
section
namespace Mine
theorem Lg.inv {r q : Rat} (hq : 0 < q) (h : Lg r q) : Ug (-r) q⁻¹ := by
  intro e he
  obtain ⟨a, a1, a2, a3⟩ := h e he
  refine ⟨a, a1, ?_, by grind⟩
  have h1 := Rat.mul_le_mul_of_nonneg_right a2 (Rat.le_of_lt (Rat.inv_pos.mpr hq))
  have h2 : q * pr a * q⁻¹ = pr a := by grind
  grind
theorem Ug.inv {r q : Rat} (hq : 0 < q) (h : Ug r q) : Lg (-r) q⁻¹ := by
  intro e he
  obtain ⟨a, a1, a2, a3⟩ := h e he
  refine ⟨a, a1, ?_, by grind⟩
  have h1 := Rat.mul_le_mul_of_nonneg_right a2 (Rat.le_of_lt (Rat.inv_pos.mpr hq))
  have h2 : q * q⁻¹ = 1 := by grind
  grind
theorem arch (x : Rat) : ∃ n : Nat, 0 < n ∧ x ≤ n := by
  refine ⟨(x.floor + 1).toNat + 1, by omega, ?_⟩
  have h := Rat.lt_floor (x := x)
  have h2 : x.floor + 1 ≤ (((x.floor + 1).toNat + 1 : Nat) : Int) := by omega
  have h3 : ((x.floor + 1 : Int) : Rat) ≤ ((((x.floor + 1).toNat + 1 : Nat) : Int) : Rat) := Rat.intCast_le_intCast.mpr h2
  rw [Rat.intCast_natCast] at h3
  have h4 : ((x.floor + 1 : Int) : Rat) = (x.floor : Rat) + 1 := by push_cast; rfl
  grind
theorem rdiv_pos {a b : Rat} (ha : 0 < a) (hb : 0 < b) : 0 < a / b := by
  rw [Rat.div_def]; exact Rat.mul_pos ha (Rat.inv_pos.mpr hb)
theorem rdiv_mul {a b c : Rat} (hb : 0 < b) : a / b * (b / c) = a / c := by
  have : b ≠ 0 := by grind
  by_cases hc : c = 0
  · subst hc; simp [Rat.div_def]
  · grind
/-- the step's size -/
theorem small_step {C d e : Rat} (hC : 0 ≤ C) (he : 0 < e) : ∃ n : Nat, 0 < n ∧ n * (C * ((d / n) * (d / n))) ≤ e := by
  obtain ⟨n, hn, h⟩ := arch (C * (d * d) / e)
  refine ⟨n, hn, ?_⟩
  have hq : (0 : Rat) < n := by exact_mod_cast hn
  have e1 : n * (C * ((d / n) * (d / n))) = C * (d * d) / n := by
    have : (n : Rat) ≠ 0 := by grind
    grind
  rw [e1]
  have h1 : C * (d * d) / e * e = C * (d * d) := fld3 he
  have h2 := Rat.mul_le_mul_of_nonneg_right h (Rat.le_of_lt he)
  rw [h1] at h2
  rcases rlt_or_le e (C * (d * d) / n) with h3 | h3
  · exfalso
    have h4 := Rat.mul_lt_mul_of_pos_right h3 hq
    rw [fld3 hq] at h4
    grind
  · exact h3
section
variable {F G : Rat → Rat} {a b C : Rat}
theorem pt_in {a b : Rat} {n i : Nat} (hab : a ≤ b) (hn : 0 < n) (hi : i ≤ n) : a ≤ a + i * ((b - a) / n) ∧ a + i * ((b - a) / n) ≤ b := by
  have hq : (0 : Rat) < n := by exact_mod_cast hn
  have hi0 : (0 : Rat) ≤ i := Rat.natCast_nonneg
  have hin : (i : Rat) ≤ n := by exact_mod_cast hi
  have hd : 0 ≤ (b - a) / n := by
    rw [Rat.div_def]; exact Rat.mul_nonneg (by grind) (Rat.le_of_lt (Rat.inv_pos.mpr hq))
  have h1 := Rat.mul_nonneg hi0 hd
  have h2 := Rat.mul_nonneg (show (0 : Rat) ≤ n - i by grind) hd
  have h3 : n * ((b - a) / n) = b - a := by
    have : (n : Rat) ≠ 0 := by grind
    grind
  constructor
  · grind
  · grind
theorem Lg.along (hab : a ≤ b) (hC : 0 ≤ C) (hG : ∀ x, a ≤ x → x ≤ b → 0 < G x)
    (h : ∀ x y, a ≤ x → x ≤ y → y ≤ b → F y - F x ≤ 1 - G x / G y + C * ((y - x) * (y - x))) : Lg (F b - F a) (G b / G a) := by
  refine Lg.lim fun e he => ?_
  obtain ⟨n, hn, hs⟩ := small_step (d := b - a) hC he
  have hq : (0 : Rat) < n := by exact_mod_cast hn
  have ha0 := hG a Rat.le_refl hab
  have key : ∀ i : Nat, i ≤ n → Lg (F (a + i * ((b - a) / n)) - F a - i * (C * (((b - a) / n) * ((b - a) / n)))) (G (a + i * ((b - a) / n)) / G a) := by
    intro i
    induction i with
    | zero =>
      intro _
      have e0 : a + ((0 : Nat) : Rat) * ((b - a) / n) = a := by push_cast; grind
      rw [e0]
      refine Lg.zero.mono ?_ ?_
      · push_cast; grind
      · have : G a / G a = 1 := by have : G a ≠ 0 := by grind
                                   grind
        grind
    | succ i ih =>
      intro hi
      have ih := ih (by omega)
      have p0 := pt_in hab hn (show i ≤ n by omega)
      have p1 := pt_in hab hn hi
      have e1 : a + ((i + 1 : Nat) : Rat) * ((b - a) / n) = (a + i * ((b - a) / n)) + (b - a) / n := by push_cast; grind
      have hd : 0 ≤ (b - a) / n := by
        rw [Rat.div_def]; exact Rat.mul_nonneg (by grind) (Rat.le_of_lt (Rat.inv_pos.mpr hq))
      rw [e1] at p1 ⊢
      generalize hx : a + (i : Rat) * ((b - a) / n) = x at *
      generalize hdd : (b - a) / n = d at *
      have g0 := hG x p0.1 p0.2
      have g1 := hG (x + d) p1.1 p1.2
      have st := h x (x + d) p0.1 (by grind) p1.2
      have bs := Lg.basic (t := G x / G (x + d)) (q := G (x + d) / G x) (rdiv_pos g0 g1) (by
        rw [rdiv_mul g0]
        have : G (x + d) / G (x + d) = 1 := by have : G (x + d) ≠ 0 := by grind
                                               grind
        grind)
      refine (Lg.add bs ih).mono ?_ ?_
      · push_cast; grind
      · rw [rdiv_mul g0]; grind
  have k := key n (Nat.le_refl n)
  have e2 : a + (n : Rat) * ((b - a) / n) = b := by
    have : (n : Rat) ≠ 0 := by grind
    grind
  rw [e2] at k
  exact k.mono (by grind) (by grind)
theorem Ug.along (hab : a ≤ b) (hC : 0 ≤ C) (hG : ∀ x, a ≤ x → x ≤ b → 0 < G x)
    (h : ∀ x y, a ≤ x → x ≤ y → y ≤ b → G y / G x - 1 ≤ F y - F x + C * ((y - x) * (y - x))) : Ug (F b - F a) (G b / G a) := by
  refine Ug.lim fun e he => ?_
  obtain ⟨n, hn, hs⟩ := small_step (d := b - a) hC he
  have hq : (0 : Rat) < n := by exact_mod_cast hn
  have ha0 := hG a Rat.le_refl hab
  have key : ∀ i : Nat, i ≤ n → Ug (F (a + i * ((b - a) / n)) - F a + i * (C * (((b - a) / n) * ((b - a) / n)))) (G (a + i * ((b - a) / n)) / G a) := by
    intro i
    induction i with
    | zero =>
      intro _
      have e0 : a + ((0 : Nat) : Rat) * ((b - a) / n) = a := by push_cast; grind
      rw [e0]
      refine Ug.zero.mono ?_ ?_
      · push_cast; grind
      · have : G a / G a = 1 := by have : G a ≠ 0 := by grind
                                   grind
        grind
    | succ i ih =>
      intro hi
      have ih := ih (by omega)
      have p0 := pt_in hab hn (show i ≤ n by omega)
      have p1 := pt_in hab hn hi
      have e1 : a + ((i + 1 : Nat) : Rat) * ((b - a) / n) = (a + i * ((b - a) / n)) + (b - a) / n := by push_cast; grind
      have hd : 0 ≤ (b - a) / n := by
        rw [Rat.div_def]; exact Rat.mul_nonneg (by grind) (Rat.le_of_lt (Rat.inv_pos.mpr hq))
      rw [e1] at p1 ⊢
      generalize hx : a + (i : Rat) * ((b - a) / n) = x at *
      generalize hdd : (b - a) / n = d at *
      have g0 := hG x p0.1 p0.2
      have g1 := hG (x + d) p1.1 p1.2
      have st := h x (x + d) p0.1 (by grind) p1.2
      have bs := Ug.basic (q := G (x + d) / G x) (rdiv_pos g1 g0)
      refine (Ug.add (rdiv_pos g0 ha0) bs ih).mono ?_ ?_
      · push_cast; grind
      · rw [rdiv_mul g0]; grind
  have k := key n (Nat.le_refl n)
  have e2 : a + (n : Rat) * ((b - a) / n) = b := by
    have : (n : Rat) ≠ 0 := by grind
    grind
  rw [e2] at k
  exact k.mono (by grind) (by grind)
end
end Mine

end
section
namespace Mine
theorem absmul {x e B : Rat} (h1 : -1 ≤ x) (h2 : x ≤ 1) (h3 : -B ≤ e) (h4 : e ≤ B) : -B ≤ x * e ∧ x * e ≤ B := by
  have a := Rat.mul_nonneg (show 0 ≤ 1 - x by grind) (show 0 ≤ B - e by grind)
  have b := Rat.mul_nonneg (show 0 ≤ 1 - x by grind) (show 0 ≤ B + e by grind)
  have c := Rat.mul_nonneg (show 0 ≤ 1 + x by grind) (show 0 ≤ B - e by grind)
  have d := Rat.mul_nonneg (show 0 ≤ 1 + x by grind) (show 0 ≤ B + e by grind)
  constructor <;> grind
theorem abspow {y z : Rat} (h0 : 0 ≤ y) (h1 : -y ≤ z) (h2 : z ≤ y) : ∀ n : Nat, -(y ^ n) ≤ z ^ n ∧ z ^ n ≤ y ^ n ∧ 0 ≤ y ^ n
  | 0 => by simp only [Rat.pow_zero]; grind
  | n + 1 => by
    obtain ⟨a, b, c⟩ := abspow h0 h1 h2 n
    rw [Rat.pow_succ, Rat.pow_succ]
    have k1 := Rat.mul_nonneg (show 0 ≤ y ^ n - z ^ n by grind) (show 0 ≤ y - z by grind)
    have k2 := Rat.mul_nonneg (show 0 ≤ y ^ n - z ^ n by grind) (show 0 ≤ y + z by grind)
    have k3 := Rat.mul_nonneg (show 0 ≤ y ^ n + z ^ n by grind) (show 0 ≤ y - z by grind)
    have k4 := Rat.mul_nonneg (show 0 ≤ y ^ n + z ^ n by grind) (show 0 ≤ y + z by grind)
    have k5 := Rat.mul_nonneg c h0
    refine ⟨?_, ?_, k5⟩ <;> grind
theorem one_rpow : ∀ n : Nat, (1 : Rat) ^ n = 1
  | 0 => Rat.pow_zero ..
  | n + 1 => by rw [Rat.pow_succ, one_rpow n, Rat.mul_one]
theorem abspow1 {z : Rat} (h1 : -1 ≤ z) (h2 : z ≤ 1) (n : Nat) : -1 ≤ z ^ n ∧ z ^ n ≤ 1 := by
  have := abspow (y := 1) (by grind) h1 h2 n
  rw [one_rpow] at this
  exact ⟨this.1, this.2.1⟩
/-- the tangent of a power -/
theorem pdiff {x y : Rat} (hx1 : -1 ≤ x) (hx2 : x ≤ 1) (hy1 : -1 ≤ y) (hy2 : y ≤ 1) : ∀ k : Nat,
    -(((k : Rat) + 1) * (k + 1) * ((x - y) * (x - y))) ≤ x ^ (k + 1) - y ^ (k + 1) - (k + 1) * y ^ k * (x - y) ∧ x ^ (k + 1) - y ^ (k + 1) - (k + 1) * y ^ k * (x - y) ≤ ((k : Rat) + 1) * (k + 1) * ((x - y) * (x - y))
  | 0 => by
    simp only [Rat.pow_succ, Rat.pow_zero]
    have := rsq_nonneg (x - y)
    push_cast
    constructor <;> grind
  | k + 1 => by
    obtain ⟨a, b⟩ := pdiff hx1 hx2 hy1 hy2 k
    have hd := rsq_nonneg (x - y)
    have hk : (0 : Rat) ≤ k := Rat.natCast_nonneg
    have hy := abspow1 hy1 hy2 k
    have m1 := absmul hx1 hx2 a b
    have m2 := absmul (B := ((k : Rat) + 1) * ((x - y) * (x - y))) (e := ((k : Rat) + 1) * ((x - y) * (x - y))) hy.1 hy.2 (by have := Rat.mul_nonneg (show (0 : Rat) ≤ k + 1 by grind) hd; grind) (by grind)
    have e : x ^ (k + 1 + 1) - y ^ (k + 1 + 1) - (((k + 1 : Nat) : Rat) + 1) * y ^ (k + 1) * (x - y) = x * (x ^ (k + 1) - y ^ (k + 1) - (k + 1) * y ^ k * (x - y)) + y ^ k * (((k : Rat) + 1) * ((x - y) * (x - y))) := by
      rw [Rat.pow_succ x (k + 1), Rat.pow_succ y (k + 1), Rat.pow_succ y k]
      push_cast
      generalize x ^ (k + 1) = X
      generalize y ^ k = Y
      grind
    rw [e]
    have h1 := Rat.mul_nonneg (show (0 : Rat) ≤ k + 1 by grind) hd
    have h2 : (((k + 1 : Nat) : Rat) + 1) * (((k + 1 : Nat) : Rat) + 1) * ((x - y) * (x - y)) = ((k : Rat) + 1) * (k + 1) * ((x - y) * (x - y)) + ((k : Rat) + 1) * ((x - y) * (x - y)) + ((k : Rat) + 1) * ((x - y) * (x - y)) + (x - y) * (x - y) := by push_cast; grind
    rw [h2]
    generalize (x - y) * (x - y) = d at *
    generalize x * (x ^ (k + 1) - y ^ (k + 1) - (k + 1) * y ^ k * (x - y)) = U at *
    generalize y ^ k * (((k : Rat) + 1) * d) = V at *
    constructor <;> grind
/-- the series of log (1 + v) -/
def lgS (v : Rat) : Nat → Rat
  | 0 => 0
  | k + 1 => lgS v k - (-v) ^ (k + 1) / (k + 1)
/-- its slope -/
def lgD (v : Rat) : Nat → Rat
  | 0 => 0
  | k + 1 => lgD v k + (-v) ^ k
theorem lgD_eq (v : Rat) : ∀ T : Nat, (1 + v) * lgD v T = 1 - (-v) ^ T
  | 0 => by simp only [lgD, Rat.pow_zero]; grind
  | T + 1 => by
    have := lgD_eq v T
    simp only [lgD, Rat.pow_succ]; grind
theorem lgS_diff {x y : Rat} (hx1 : -1 ≤ x) (hx2 : x ≤ 1) (hy1 : -1 ≤ y) (hy2 : y ≤ 1) : ∀ T : Nat,
    -((T : Rat) * T * ((x - y) * (x - y))) ≤ lgS y T - lgS x T - lgD y T * (y - x) ∧ lgS y T - lgS x T - lgD y T * (y - x) ≤ (T : Rat) * T * ((x - y) * (x - y))
  | 0 => by
    simp only [lgS, lgD]; push_cast; constructor <;> grind
  | T + 1 => by
    obtain ⟨a, b⟩ := lgS_diff hx1 hx2 hy1 hy2 T
    obtain ⟨c, d⟩ := pdiff (x := -x) (y := -y) (by grind) (by grind) (by grind) (by grind) T
    have hT : (0 : Rat) ≤ T := Rat.natCast_nonneg
    have hd := rsq_nonneg (x - y)
    simp only [lgS, lgD]
    have e1 : (-x - -y) * (-x - -y) = (x - y) * (x - y) := by grind
    rw [e1] at c d
    have e2 : lgS y T - (-y) ^ (T + 1) / (T + 1) - (lgS x T - (-x) ^ (T + 1) / (T + 1)) - (lgD y T + (-y) ^ T) * (y - x) = (lgS y T - lgS x T - lgD y T * (y - x)) + ((-x) ^ (T + 1) - (-y) ^ (T + 1) - (T + 1) * (-y) ^ T * (-x - -y)) / (T + 1) := by
      have : (T : Rat) + 1 ≠ 0 := by grind
      grind
    rw [e2]
    generalize lgS y T - lgS x T - lgD y T * (y - x) = U at *
    generalize (-x) ^ (T + 1) - (-y) ^ (T + 1) - (T + 1) * (-y) ^ T * (-x - -y) = V at *
    generalize (x - y) * (x - y) = D at *
    have h1 : V / ((T : Rat) + 1) ≤ ((T : Rat) + 1) * D := by
      have : V / ((T : Rat) + 1) * ((T : Rat) + 1) = V := fld3 (by grind)
      rcases rlt_or_le (((T : Rat) + 1) * D) (V / ((T : Rat) + 1)) with h | h
      · have := Rat.mul_lt_mul_of_pos_right h (show (0 : Rat) < T + 1 by grind)
        grind
      · exact h
    have h2 : -(((T : Rat) + 1) * D) ≤ V / ((T : Rat) + 1) := by
      have : V / ((T : Rat) + 1) * ((T : Rat) + 1) = V := fld3 (by grind)
      rcases rlt_or_le (V / ((T : Rat) + 1)) (-(((T : Rat) + 1) * D)) with h | h
      · have := Rat.mul_lt_mul_of_pos_right h (show (0 : Rat) < T + 1 by grind)
        grind
      · exact h
    have h3 := Rat.mul_nonneg hT hd
    push_cast
    constructor <;> grind
end Mine

end
section
namespace Mine
theorem rdiv_le {a b c : Rat} (hb : 0 < b) (h : a ≤ c * b) : a / b ≤ c := by
  rcases rlt_or_le c (a / b) with h1 | h1
  · exfalso
    have := Rat.mul_lt_mul_of_pos_right h1 hb
    rw [fld3 hb] at this
    grind
  · exact h1
theorem le_rdiv {a b c : Rat} (hb : 0 < b) (h : c * b ≤ a) : c ≤ a / b := by
  rcases rlt_or_le (a / b) c with h1 | h1
  · exfalso
    have := Rat.mul_lt_mul_of_pos_right h1 hb
    rw [fld3 hb] at this
    grind
  · exact h1
section
variable {s u : Rat}
/-- F' of the lower and the upper function -/
theorem tay_pt {s y : Rat} (hs : s = 1 ∨ s = -1) (h0 : 0 ≤ y) (h1 : 2 * y ≤ 1) (T : Nat) :
    (s * lgD (s * y) T - 2 * y ^ T) * (1 + s * y) ≤ s ∧ s ≤ (s * lgD (s * y) T + 2 * y ^ T) * (1 + s * y) := by
  have e := lgD_eq (s * y) T
  have hz : -y ≤ -(s * y) ∧ -(s * y) ≤ y := by rcases hs with h | h <;> subst h <;> constructor <;> grind
  obtain ⟨a, b, c⟩ := abspow h0 hz.1 hz.2 T
  have hg : (1 : Rat) ≤ 2 * (1 + s * y) := by rcases hs with h | h <;> subst h <;> grind
  have k := Rat.mul_nonneg c (show (0 : Rat) ≤ 2 * (1 + s * y) - 1 by grind)
  have e1 : s * lgD (s * y) T * (1 + s * y) = s - s * (-(s * y)) ^ T := by
    have : s * lgD (s * y) T * (1 + s * y) = s * ((1 + s * y) * lgD (s * y) T) := by grind
    rw [this, e]; grind
  generalize (-(s * y)) ^ T = Z at *
  generalize y ^ T = Y at *
  generalize lgD (s * y) T = D at *
  rcases hs with h | h <;> subst h <;> constructor <;> grind
/-- lower and upper function -/
def tayF (s σ : Rat) (T : Nat) (x : Rat) : Rat := lgS (s * x) T + σ * (2 * x ^ (T + 1) / (T + 1))
theorem tayF_diff {s σ x y : Rat} (hs : s = 1 ∨ s = -1) (hσ : σ = 1 ∨ σ = -1) (hx0 : 0 ≤ x) (hx1 : x ≤ 1) (hy0 : 0 ≤ y) (hy1 : y ≤ 1) (T : Nat) :
    -(((T : Rat) * T + 2 * (T + 1)) * ((y - x) * (y - x))) ≤ tayF s σ T y - tayF s σ T x - (s * lgD (s * y) T + σ * (2 * y ^ T)) * (y - x) ∧
    tayF s σ T y - tayF s σ T x - (s * lgD (s * y) T + σ * (2 * y ^ T)) * (y - x) ≤ (((T : Rat) * T + 2 * (T + 1)) * ((y - x) * (y - x))) := by
  obtain ⟨a, b⟩ := lgS_diff (x := s * x) (y := s * y) (by rcases hs with h | h <;> subst h <;> grind) (by rcases hs with h | h <;> subst h <;> grind) (by rcases hs with h | h <;> subst h <;> grind) (by rcases hs with h | h <;> subst h <;> grind) T
  obtain ⟨c, d⟩ := pdiff (x := x) (y := y) (by grind) (by grind) (by grind) (by grind) T
  have hT : (0 : Rat) ≤ T := Rat.natCast_nonneg
  have e0 : (s * x - s * y) * (s * x - s * y) = (y - x) * (y - x) := by rcases hs with h | h <;> subst h <;> grind
  have e0' : (x - y) * (x - y) = (y - x) * (y - x) := by grind
  rw [e0] at a b
  rw [e0'] at c d
  unfold tayF
  have e1 : lgS (s * y) T + σ * (2 * y ^ (T + 1) / (T + 1)) - (lgS (s * x) T + σ * (2 * x ^ (T + 1) / (T + 1))) - (s * lgD (s * y) T + σ * (2 * y ^ T)) * (y - x)
      = (lgS (s * y) T - lgS (s * x) T - lgD (s * y) T * (s * y - s * x)) - σ * (2 * ((x ^ (T + 1) - y ^ (T + 1) - (T + 1) * y ^ T * (x - y)) / (T + 1))) := by
    have : (T : Rat) + 1 ≠ 0 := by grind
    grind
  rw [e1]
  generalize lgS (s * y) T - lgS (s * x) T - lgD (s * y) T * (s * y - s * x) = U at *
  generalize x ^ (T + 1) - y ^ (T + 1) - (T + 1) * y ^ T * (x - y) = V at *
  generalize (y - x) * (y - x) = D at *
  have h1 : V / ((T : Rat) + 1) ≤ ((T : Rat) + 1) * D := rdiv_le (by grind) (by grind)
  have h2 : -(((T : Rat) + 1) * D) ≤ V / ((T : Rat) + 1) := le_rdiv (by grind) (by grind)
  generalize V / ((T : Rat) + 1) = W at *
  rcases hσ with h | h <;> subst h <;> constructor <;> grind
theorem tay_lo (hs : s = 1 ∨ s = -1) (h0 : 0 ≤ u) (h1 : 2 * u ≤ 1) (T : Nat) : Lg (lgS (s * u) T - 2 * u ^ (T + 1) / (T + 1)) (1 + s * u) := by
  have hT : (0 : Rat) ≤ T := Rat.natCast_nonneg
  have key := Lg.along (F := tayF s (-1) T) (G := fun x => 1 + s * x) (a := 0) (b := u) (C := (T : Rat) * T + 2 * (T + 1)) h0 (by have := Rat.mul_nonneg hT hT; grind)
    (by intro x hx hx2; rcases hs with h | h <;> subst h <;> grind) (by
      intro x y hx hxy hy
      have hp := (tay_pt hs (y := y) (by grind) (by grind) T).1
      have hd := (tayF_diff (σ := -1) hs (Or.inr rfl) hx (by grind) (show 0 ≤ y by grind) (by grind) T).2
      have g : 0 < 1 + s * y := by rcases hs with h | h <;> subst h <;> grind
      have e : 1 - (1 + s * x) / (1 + s * y) = s / (1 + s * y) * (y - x) := by
        have : 1 + s * y ≠ 0 := by grind
        grind
      have h2 : s * lgD (s * y) T - 2 * y ^ T ≤ s / (1 + s * y) := le_rdiv g hp
      have h3 := Rat.mul_nonneg (show 0 ≤ s / (1 + s * y) - (s * lgD (s * y) T - 2 * y ^ T) by grind) (show 0 ≤ y - x by grind)
      show _ ≤ 1 - (1 + s * x) / (1 + s * y) + _
      rw [e]
      generalize s / (1 + s * y) = A at *
      generalize lgD (s * y) T = B at *
      grind)
  refine key.mono ?_ ?_
  · unfold tayF
    have e0 : lgS (s * 0) T = 0 := by
      rw [Rat.mul_zero]
      have : ∀ T, lgS 0 T = 0 := by
        intro T
        induction T with
        | zero => rfl
        | succ T ih => simp only [lgS, ih, Rat.pow_succ]; grind
      exact this T
    rw [e0, show (0 : Rat) ^ (T + 1) = 0 by rw [Rat.pow_succ, Rat.mul_zero]]
    grind
  · have : (1 + s * u) / (1 + s * 0) = 1 + s * u := by rw [Rat.mul_zero]; grind
    show (1 + s * u) / (1 + s * 0) ≤ _
    rw [this]
    grind
theorem tay_hi (hs : s = 1 ∨ s = -1) (h0 : 0 ≤ u) (h1 : 2 * u ≤ 1) (T : Nat) : Ug (lgS (s * u) T + 2 * u ^ (T + 1) / (T + 1)) (1 + s * u) := by
  have hT : (0 : Rat) ≤ T := Rat.natCast_nonneg
  have key := Ug.along (F := tayF s 1 T) (G := fun x => 1 + s * x) (a := 0) (b := u) (C := (T : Rat) * T + 2 * (T + 1) + 4) h0 (by have := Rat.mul_nonneg hT hT; grind)
    (by intro x hx hx2; rcases hs with h | h <;> subst h <;> grind) (by
      intro x y hx hxy hy
      have hp := (tay_pt hs (y := y) (by grind) (by grind) T).2
      have hd := (tayF_diff (σ := 1) hs (Or.inl rfl) hx (by grind) (show 0 ≤ y by grind) (by grind) T).1
      have g : 0 < 1 + s * y := by rcases hs with h | h <;> subst h <;> grind
      have g' : 0 < 1 + s * x := by rcases hs with h | h <;> subst h <;> grind
      have gb : (1 : Rat) ≤ 2 * (1 + s * y) := by rcases hs with h | h <;> subst h <;> grind
      have gb' : (1 : Rat) ≤ 2 * (1 + s * x) := by rcases hs with h | h <;> subst h <;> grind
      have e : (1 + s * y) / (1 + s * x) - 1 = s / (1 + s * x) * (y - x) := by
        have : 1 + s * x ≠ 0 := by grind
        grind
      have h2 : s / (1 + s * y) ≤ s * lgD (s * y) T + 2 * y ^ T := rdiv_le g hp
      have h3 := Rat.mul_nonneg (show 0 ≤ (s * lgD (s * y) T + 2 * y ^ T) - s / (1 + s * y) by grind) (show 0 ≤ y - x by grind)
      have h4 : s / (1 + s * x) ≤ s / (1 + s * y) + 4 * (y - x) := by
        refine rdiv_le g' ?_
        have e5 : s / (1 + s * y) * (1 + s * x) = s - s / (1 + s * y) * (s * (y - x)) := by
          have : 1 + s * y ≠ 0 := by grind
          grind
        have e6 : s / (1 + s * y) * (s * (y - x)) = (y - x) / (1 + s * y) := by
          have : 1 + s * y ≠ 0 := by grind
          rcases hs with h | h <;> subst h <;> grind
        have e7 : (y - x) / (1 + s * y) ≤ 2 * (y - x) := rdiv_le g (by
          have := Rat.mul_nonneg (show 0 ≤ y - x by grind) (show (0 : Rat) ≤ 2 * (1 + s * y) - 1 by grind)
          grind)
        have e8 := Rat.mul_nonneg (show 0 ≤ y - x by grind) (show (0 : Rat) ≤ 2 * (1 + s * x) - 1 by grind)
        rw [Rat.add_mul, e5, e6]
        grind
      have h5 := Rat.mul_nonneg (show 0 ≤ s / (1 + s * y) + 4 * (y - x) - s / (1 + s * x) by grind) (show 0 ≤ y - x by grind)
      show (1 + s * y) / (1 + s * x) - 1 ≤ _
      rw [e]
      generalize s / (1 + s * y) = A at *
      generalize s / (1 + s * x) = A' at *
      generalize lgD (s * y) T = B at *
      grind)
  refine key.mono ?_ ?_
  · unfold tayF
    have e0 : lgS (s * 0) T = 0 := by
      rw [Rat.mul_zero]
      have : ∀ T, lgS 0 T = 0 := by
        intro T
        induction T with
        | zero => rfl
        | succ T ih => simp only [lgS, ih, Rat.pow_succ]; grind
      exact this T
    rw [e0, show (0 : Rat) ^ (T + 1) = 0 by rw [Rat.pow_succ, Rat.mul_zero]]
    grind
  · have : (1 + s * u) / (1 + s * 0) = 1 + s * u := by rw [Rat.mul_zero]; grind
    show _ ≤ (1 + s * u) / (1 + s * 0)
    rw [this]
    grind
end
end Mine

end
section
open PySem PySem.W PyProof.Rows
section
open PySem PySem.W PyProof.Rows
namespace Mine
/-- fewer than n bits -/
def Fit (n : Nat) (x : Int) : Prop := x.natAbs < 2 ^ n
theorem Fit.mono {n m : Nat} {x : Int} (h : Fit n x) (hm : n ≤ m) : Fit m x :=
  Nat.lt_of_lt_of_le h (Nat.pow_le_pow_right (by decide) hm)
theorem Fit.bits {n : Nat} {x : Int} (h : Fit n x) : Builtin.Int.intBits x ≤ n := by
  unfold Builtin.Int.intBits
  split
  · omega
  · rename_i hx
    have h0 : x.natAbs ≠ 0 := by
      intro e; apply hx; simp; omega
    have := (Nat.log2_lt h0).mpr h
    omega
theorem Fit.mul {n m : Nat} {x y : Int} (hx : Fit n x) (hy : Fit m y) : Fit (n + m) (x * y) := by
  unfold Fit at *
  rw [Int.natAbs_mul, Nat.pow_add]
  exact Nat.mul_lt_mul'' hx hy
theorem Fit.add {n m : Nat} {x y : Int} (hx : Fit n x) (hy : Fit m y) : Fit (n + m + 1) (x + y) := by
  unfold Fit at *
  have h1 : 2 ^ n ≤ 2 ^ (n + m) := Nat.pow_le_pow_right (by decide) (by omega)
  have h2 : 2 ^ m ≤ 2 ^ (n + m) := Nat.pow_le_pow_right (by decide) (by omega)
  have h3 : 2 ^ (n + m + 1) = 2 * 2 ^ (n + m) := by rw [Nat.pow_succ]; omega
  omega
theorem Fit.neg {n : Nat} {x : Int} (hx : Fit n x) : Fit n (-x) := by
  unfold Fit at *; omega
theorem Fit.sub {n m : Nat} {x y : Int} (hx : Fit n x) (hy : Fit m y) : Fit (n + m + 1) (x - y) := by
  rw [Int.sub_eq_add_neg]; exact hx.add hy.neg
theorem Fit.mulOk {n m : Nat} {x y : Int} (hx : Fit n x) (hy : Fit m y) (h : n + m ≤ 1000000) : IntMulOk x y := by
  have h1 := hx.bits
  have h2 := hy.bits
  unfold IntMulOk Builtin.Int.intTooBig
  intro hh
  simp only [Bool.and_eq_true, decide_eq_true_eq] at hh
  have h3 := hh.2
  have : ((bitsLine : Nat) : Int) = 134217728 := by decide +kernel
  rw [this] at h3
  omega
theorem Fit.noPylong {n : Nat} {x y : Int} (hy : Fit n y) (h : n ≤ 9000) : Builtin.divisionGoesByPylong x y = false := by
  refine PyProof.noPylong_of_log2 ?_
  by_cases h0 : y.natAbs = 0
  · rw [h0]; decide +kernel
  · exact (Nat.log2_lt h0).mpr (Fit.mono hy h)
end Mine

end
section
open PySem PySem.W PyProof.Rows
namespace Mine
/-- a call of f with vs gives back an int r with P r, and leaves all as it was -/
abbrev ConI (prog : Program) (w : World) (K : Frag) (p : Program) (loose : List Str) (mean : ExcName → Option Value) (mg mb : Str → Option Value) (d : Nat) (f : Addr) (vs : List Value) (P : Int → Prop) : Prop :=
  ∀ (news : List (Addr × Obj)) (dp un : Nat) (gd : Option (List Code)) (cn : Str) (cs : Scope) (a : Addr) (ccd : Value) (cl : List (Str × Addr)) (outer : List Env) (A₀ : Around) (base h₀ : Heap) (L : Addr) (m : Str → Option Value) (s : Shared) (Q E : Value → Shared → Prop),
    Below A₀ base outer h₀ → Fr h₀ L s.heap m → K.In h₀ → News h₀ L s.heap news → Top p loose mean mg mb h₀ → cs.kind = .function →
    dp + d < recursionLimit → un + 8 * d < cLine →
    (∀ (r : Int) (t : Tok) (h' : Heap) (tk' : Nat), P r → Fr h₀ L h' m → News h₀ L h' news → Q (.int r t) { s with heap := h', toks := tk' }) →
      wpAny (model prog w) (ktrTop dp un gd cn cs L a ccd cl outer) (call (.ref f) vs) Q E s
/-- the same with the very int -/
abbrev ConX (prog : Program) (w : World) (K : Frag) (p : Program) (loose : List Str) (mean : ExcName → Option Value) (mg mb : Str → Option Value) (d : Nat) (f : Addr) (vs : List Value) (r : Int) : Prop :=
  ∀ (news : List (Addr × Obj)) (dp un : Nat) (gd : Option (List Code)) (cn : Str) (cs : Scope) (a : Addr) (ccd : Value) (cl : List (Str × Addr)) (outer : List Env) (A₀ : Around) (base h₀ : Heap) (L : Addr) (m : Str → Option Value) (s : Shared) (Q E : Value → Shared → Prop),
    Below A₀ base outer h₀ → Fr h₀ L s.heap m → K.In h₀ → News h₀ L s.heap news → Top p loose mean mg mb h₀ → cs.kind = .function →
    dp + d < recursionLimit → un + 8 * d < cLine →
    (∀ (t : Tok) (h' : Heap) (tk' : Nat), Fr h₀ L h' m → News h₀ L h' news → Q (.int r t) { s with heap := h', toks := tk' }) →
      wpAny (model prog w) (ktrTop dp un gd cn cs L a ccd cl outer) (call (.ref f) vs) Q E s
theorem con_retI {h₀ h' : Heap} {L : Addr} {m : Str → Option Value} {news news' : List (Addr × Obj)} {s : Shared} {Q : Value → Shared → Prop} {P : Int → Prop} {r : Int} {t : Tok} {tk' : Nat}
   (hret : ∀ (r : Int) (t : Tok) (h' : Heap) (tk' : Nat), P r → Fr h₀ L h' m → News h₀ L h' news → Q (.int r t) { s with heap := h', toks := tk' })
   (hp : P r) (F : Fr h₀ L h' m) (N : News h₀ L h' news') (hs : ∀ p ∈ news, p ∈ news') : Q (.int r t) { s with heap := h', toks := tk' } :=
  hret _ _ _ _ hp F fun p hp => N p (hs p hp)
theorem con_retX {h₀ h' : Heap} {L : Addr} {m : Str → Option Value} {news news' : List (Addr × Obj)} {s : Shared} {Q : Value → Shared → Prop} {x r : Int} {t : Tok} {tk' : Nat}
   (hret : ∀ (t : Tok) (h' : Heap) (tk' : Nat), Fr h₀ L h' m → News h₀ L h' news → Q (.int x t) { s with heap := h', toks := tk' })
   (hp : r = x) (F : Fr h₀ L h' m) (N : News h₀ L h' news') (hs : ∀ p ∈ news, p ∈ news') : Q (.int r t) { s with heap := h', toks := tk' } := by
  subst hp
  exact hret _ _ _ F fun p hp => N p (hs p hp)
/-- nearest of a / b, ties to even -/
def divN (a b : Int) : Int := a / b + (if b < 2 * (a % b) + a / b % 2 then 1 else 0)
theorem divN_walk {a b : Int} (hb : 0 < b) : (a.fdiv b + if decide (b < 2 * a.fmod b + Builtin.bitAnd (a.fdiv b) 1) = true then 1 else 0) = divN a b := by
  unfold divN
  rw [bitAnd_m1, Int.fdiv_eq_ediv_of_nonneg _ (by omega), Int.fmod_eq_emod_of_nonneg _ (by omega)]
  simp
end Mine
namespace Mine
theorem rshN_walk {x : Int} {n : Nat} : (x.fdiv (2 ^ n) + if decide (1 * 2 ^ n < 2 * Builtin.bitAnd x (1 * 2 ^ n - 1) + Builtin.bitAnd (x.fdiv (2 ^ n)) 1) = true then 1 else 0) = divN x (2 ^ n) := by
  have h : (0 : Int) < 2 ^ n := Int.pow_pos (by decide)
  rw [Int.one_mul, kbt_mask, ← divN_walk h, Int.fmod_eq_emod_of_nonneg _ (by omega)]
theorem isq_nonneg (a : Int) : 0 ≤ a * a := by
  rcases Int.le_total 0 a with h | h
  · exact Int.mul_nonneg h h
  · exact Int.mul_nonneg_of_nonpos_of_nonpos h h
/-- one turn of Newton's -/
def sqStep (n a : Int) : Int := (a - (-n) / a) / 2
theorem sqStep_lo {n a : Int} (hn : 0 < n) (ha : 0 < a) : 0 < sqStep n a ∧ n ≤ sqStep n a * sqStep n a + sqStep n a := by
  unfold sqStep
  generalize hq : (-n) / a = q
  have e1 := Int.mul_ediv_add_emod (-n) a
  have e2 := Int.emod_nonneg (-n) (b := a) (by omega)
  have e3 := Int.emod_lt_of_pos (-n) ha
  rw [hq] at e1
  generalize hr : (-n) % a = r at *
  generalize hz : (a - q) / 2 = z
  -- -n = a q + r, 0 ≤ r < a; c := -q ≥ n/a, c ≥ 1
  have hq0 : q < 0 := by
    rcases Int.lt_or_le q 0 with h | h
    · exact h
    · have := Int.mul_nonneg (Int.le_of_lt ha) h; omega
  have hz2 : 2 * z ≤ a - q ∧ a - q ≤ 2 * z + 1 := by omega
  have hz0 : 0 < z := by omega
  refine ⟨hz0, ?_⟩
  -- n ≤ a * (-q), (a - q)^2 ≥ 4 a (-q) ; (2z+1)^2 ≥ (a-q)^2
  have h1 : n ≤ a * (-q) := by have : a * (-q) = -(a * q) := by rw [Int.mul_neg]
                               omega
  have h2 : 4 * (a * (-q)) ≤ (a - q) * (a - q) := by
    have := isq_nonneg (a + q)
    grind
  have h3 : (a - q) * (a - q) ≤ (2 * z + 1) * (2 * z + 1) := Int.mul_le_mul hz2.2 hz2.2 (by omega) (by omega)
  have h4 : (2 * z + 1) * (2 * z + 1) = 4 * (z * z + z) + 1 := by grind
  omega
theorem sqStep_fix {n a : Int} (ha : 0 < a) (h : sqStep n a = a) : a * a - a < n ∧ n ≤ a * a + a := by
  unfold sqStep at h
  have e1 := Int.mul_ediv_add_emod (-n) a
  have e2 := Int.emod_nonneg (-n) (b := a) (by omega)
  have e3 := Int.emod_lt_of_pos (-n) ha
  generalize hq : (-n) / a = q at *
  generalize hr : (-n) % a = r at *
  have : -(a + 1) ≤ q ∧ q ≤ -a := by omega
  have h5 : q = -a ∨ q = -(a+1) := by omega
  rcases h5 with h5 | h5 <;> subst h5 <;> constructor <;> grind
theorem sqStep_less {n a : Int} (ha : 0 < a) (h : sqStep n a ≠ a) (hn : n ≤ a * a + a) : sqStep n a < a := by
  unfold sqStep at *
  have e1 := Int.mul_ediv_add_emod (-n) a
  have e2 := Int.emod_nonneg (-n) (b := a) (by omega)
  have e3 := Int.emod_lt_of_pos (-n) ha
  generalize hq : (-n) / a = q at *
  generalize hr : (-n) % a = r at *
  rcases Int.lt_or_le (a + 1) (-q) with h1 | h1
  · exfalso
    have h2 : a * q ≤ a * (-(a + 2)) := Int.mul_le_mul_of_nonneg_left (by omega) (by omega)
    have h3 : a * (-(a+2)) = -(a * a) - 2 * a := by grind
    omega
  · omega
/-- the nearest to the root of n -/
def IsSq (n r : Int) : Prop := 0 < r ∧ r * r - r < n ∧ n ≤ r * r + r
theorem IsSq.unique {n r s : Int} (h : IsSq n r) (k : IsSq n s) : r = s := by
  obtain ⟨a1, a2, a3⟩ := h
  obtain ⟨b1, b2, b3⟩ := k
  rcases Int.lt_trichotomy r s with h | h | h
  · exfalso
    have : (r + 1) * (r + 1) ≤ s * s := Int.mul_le_mul (by omega) (by omega) (by omega) (by omega)
    have h5 : (s - r - 1) * (s + r) ≥ 0 := Int.mul_nonneg (by omega) (by omega)
    grind
  · exact h
  · exfalso
    have h5 : (r - s - 1) * (r + s) ≥ 0 := Int.mul_nonneg (by omega) (by omega)
    grind
end Mine

namespace Mine
theorem sqStep_hi {n a z : Int} (hn : 0 < n) (ha : 0 < a) (hz : a ≤ z + n) (hz0 : 0 < z) : sqStep n a ≤ z + n := by
  unfold sqStep
  have e1 := Int.mul_ediv_add_emod (-n) a
  have e2 := Int.emod_nonneg (-n) (b := a) (by omega)
  have e3 := Int.emod_lt_of_pos (-n) ha
  generalize hq : (-n) / a = q at *
  generalize hr : (-n) % a = r at *
  have : -n ≤ q := by
    rcases Int.lt_or_le q (-n) with h | h
    · exfalso
      have h2 : a * q ≤ a * (-n - 1) := Int.mul_le_mul_of_nonneg_left (by omega) (by omega)
      have h3 : a * (-n - 1) = -(a * n) - a := by grind
      have h4 : n ≤ a * n := by
        have : 1 * n ≤ a * n := Int.mul_le_mul_of_nonneg_right (by omega) (by omega)
        omega
      omega
    · exact h
  omega
def sqMeas (n b a : Int) : Nat := if n ≤ a * a + a then 2 * a.toNat + (if a = b then 0 else 1) else 2 * (a.toNat + n.toNat) + 10
theorem sqMeas_less {n b a : Int} (hn : 0 < n) (ha : 0 < a) (hab : a ≠ b) : sqMeas n a (sqStep n a) < sqMeas n b a := by
  have ⟨h0, h1⟩ := sqStep_lo hn ha
  have h2 := sqStep_hi (z := a) hn ha (by omega) ha
  unfold sqMeas
  rw [if_pos h1, if_neg hab]
  by_cases e : sqStep n a = a
  · rw [if_pos e]; split <;> omega
  · rw [if_neg e]
    split
    · rename_i h
      have := sqStep_less ha e h
      omega
    · omega
end Mine
namespace Mine
theorem Fit.of_le {k : Nat} {x y : Int} (h : Fit k y) (h1 : -y ≤ x) (h2 : x ≤ y) : Fit k x := by
  unfold Fit at *; omega
theorem sq_walk {n a : Int} (ha : 0 < a) : (a - (-n).fdiv a).fdiv (2 ^ Int.toNat 1) = sqStep n a := by
  unfold sqStep
  rw [Int.fdiv_eq_ediv_of_nonneg _ (b := 2 ^ Int.toNat 1) (by decide), Int.fdiv_eq_ediv_of_nonneg _ (b := a) (by omega)]
  rfl
theorem sq_turn {n z a : Int} (hn : 0 < n) (hz : 0 < z) (ha : 0 < a) (h : a ≤ z + n) :
    0 < (a - (-n).fdiv a).fdiv (2 ^ Int.toNat 1) ∧ (a - (-n).fdiv a).fdiv (2 ^ Int.toNat 1) ≤ z + n ∧ (a = 0 ∨ (0 < a ∧ (a - (-n).fdiv a).fdiv (2 ^ Int.toNat 1) = sqStep n a)) := by
  rw [sq_walk ha]
  exact ⟨(sqStep_lo hn ha).1, sqStep_hi hn ha h hz, Or.inr ⟨ha, rfl⟩⟩
theorem sq_meas {n b a : Int} (hn : 0 < n) (ha : 0 < a) (hab : a ≠ b) : sqMeas n a ((a - (-n).fdiv a).fdiv (2 ^ Int.toNat 1)) < sqMeas n b a := by
  rw [sq_walk ha]
  exact sqMeas_less hn ha hab
theorem sq_out {n a b : Int} (ha : 0 < a) (h : b = 0 ∨ 0 < b ∧ a = sqStep n b) (e : a = b) : IsSq n a := by
  subst e
  rcases h with h | h
  · omega
  · exact ⟨ha, sqStep_fix ha h.2.symm⟩
end Mine
namespace Mine
theorem Fit.log2 {n : Nat} {x : Int} (h : Fit n x) (hn : n ≤ 1920) (h0 : 0 < n): x.natAbs.log2 < 1920 := by
  by_cases h1 : x.natAbs = 0
  · rw [h1]; decide +kernel
  · have := (Nat.log2_lt h1).mpr h
    omega
theorem Fit.len {n : Nat} {x : Int} (h : Fit n x) (hn : n ≤ 1920) (h0 : 0 < n) : ¬ (((Str.ofString (toString x)).length : Nat) : Int) ≥ 2 ^ 63 := by
  have e := int_text_length_le (k := 1920) (by decide) (h.log2 hn h0)
  rw [PySem.ofString_length]
  have : (2 : Int) ^ 63 = 9223372036854775808 := by decide
  omega
/-- len(str(x)) -/
def nd (x : Int) : Nat := (Str.ofString (toString x)).length
theorem nd_le {x : Int} {k : Nat} (hx : 0 ≤ x) (hk : 0 < k) : nd x ≤ k ↔ x < 10 ^ k := by
  unfold nd
  rw [PySem.ofString_length]
  obtain ⟨m, rfl⟩ := Int.eq_ofNat_of_zero_le hx
  have e : toString (Int.ofNat m) = Nat.repr m := rfl
  show (toString (Int.ofNat m)).length ≤ k ↔ _
  rw [e, Nat.length_repr_le_iff hk]
  have : ((10 : Int) ^ k) = ((10 ^ k : Nat) : Int) := by simp
  rw [this]
  omega
theorem nd_eq {x : Int} {k : Nat} (h1 : 10 ^ k ≤ x) (h2 : x < 10 ^ (k + 1)) : nd x = k + 1 := by
  have h0 : (0 : Int) < 10 ^ k := Int.pow_pos (by decide)
  have a := (nd_le (x := x) (k := k + 1) (by omega) (by omega)).mpr h2
  rcases Nat.eq_zero_or_pos k with hk | hk
  · subst hk
    have : 0 < nd x := by
      unfold nd
      rw [PySem.ofString_length]
      obtain ⟨m, rfl⟩ := Int.eq_ofNat_of_zero_le (show 0 ≤ x by omega)
      have e : toString (Int.ofNat m) = Nat.repr m := rfl
      show 0 < (toString (Int.ofNat m)).length
      rw [e]
      exact Nat.length_repr_pos
    omega
  · have b := mt (nd_le (x := x) (k := k) (by omega) hk).mp (by omega)
    omega
/-- the reductions of _ilog: RedTo x M R y: y after R turns -/
inductive RedTo (x M : Int) : Nat → Int → Prop where
  | zero : RedTo x M 0 (x - M)
  | succ {R : Nat} {y s : Int} : RedTo x M R y → M * 2 ^ R ≤ 256 * (y.natAbs : Int) → IsSq (M * (M + divN y (2 ^ R))) s → RedTo x M (R + 1) (divN (M * y * 2) (M + s))
/-- the terms of the series -/
def tays (p : Nat) : Nat := (10 * (p + 1) + 23) / 24
/-- the Horner loop -/
def horn (M ys w : Int) (ks : List Int) : Int := ks.foldl (fun w k => divN M k - divN (ys * w) M) w
end Mine
namespace Mine
theorem divN_bounds (a : Int) {b : Int} (hb : 0 < b) : 2 * a - b ≤ 2 * (divN a b * b) ∧ 2 * (divN a b * b) ≤ 2 * a + b := by
  unfold divN
  have e1 := Int.mul_ediv_add_emod a b
  have e2 := Int.emod_nonneg a (b := b) (by omega)
  have e3 := Int.emod_lt_of_pos a hb
  generalize hq : a / b = q at *
  generalize hr : a % b = r at *
  have e4 : (q + 1) * b = b * q + b := by grind
  have e5 : q * b = b * q := Int.mul_comm _ _
  split
  · rw [e4]; omega
  · rw [Int.add_zero, e5]; omega
theorem divN_abs (a : Int) {b : Int} (hb : 0 < b) : (divN a b).natAbs ≤ a.natAbs := by
  have e1 := Int.mul_ediv_add_emod a b
  have e2 := Int.emod_nonneg a (b := b) (by omega)
  have e3 := Int.emod_lt_of_pos a hb
  unfold divN
  generalize hq : a / b = q at *
  generalize hr : a % b = r at *
  rcases Int.lt_or_le q 0 with h | h
  · have h2 : b * (q + 1) ≤ 1 * (q + 1) := by
      have : (b - 1) * (q + 1) ≤ 0 := Int.mul_nonpos_of_nonneg_of_nonpos (by omega) (by omega)
      grind
    have e4 : b * (q + 1) = b * q + b := by grind
    split
    · omega
    · rcases Int.lt_or_le b 2 with hb2 | hb2
      · have : b = 1 := by omega
        subst this; omega
      · omega
  · have h2 : q ≤ b * q := by
      have : 1 * q ≤ b * q := Int.mul_le_mul_of_nonneg_right (by omega) h
      omega
    split
    · have : 0 < r := by
        rcases Int.lt_or_le 0 r with h3 | h3
        · exact h3
        · have : r = 0 := by omega
          subst this
          have : b = 1 := by omega
          subst this
          omega
      omega
    · omega
theorem Fit.divN {k : Nat} {a b : Int} (h : Fit k a) (hb : 0 < b) : Fit k (divN a b) :=
  Nat.lt_of_le_of_lt (divN_abs a hb) h
theorem IsSq.le {n s : Int} (h : IsSq n s) : s ≤ n := by
  obtain ⟨h1, h2, h3⟩ := h
  rcases Int.lt_or_le s 2 with h | h
  · have : s = 1 := by omega
    subst this; omega
  · have : 2 * s ≤ s * s := Int.mul_le_mul_of_nonneg_right h (by omega)
    omega
theorem Fit.sq {k : Nat} {n s : Int} (h : Fit k n) (hs : IsSq n s) : Fit k s := by
  have := hs.le
  have := hs.1
  unfold Fit at *; omega
theorem Fit.abs {k : Nat} {y : Int} (h : Fit k y) : Fit k (if y < 0 then -y else y) := by
  split
  · exact h.neg
  · exact h
theorem Fit.shl {k : Nat} {y n : Int} (h : Fit k y) (hn : n ≤ 100) (hk : k ≤ 1000000) : (Builtin.Int.intBits y : Int) + n ≤ 2 ^ 27 := by
  have := h.bits
  have : (2 : Int) ^ 27 = 134217728 := by decide
  omega
theorem Fit.two (k : Nat) (hk : k ≤ 100) : Fit 200 (2 ^ k) := by
  unfold Fit
  have : ((2 : Int) ^ k).natAbs = 2 ^ k := by
    rw [Int.natAbs_pow]; rfl
  rw [this]
  exact Nat.pow_lt_pow_right (by decide) (by omega)
end Mine
namespace Mine
/-- what the walk of _ilog asks of the reductions -/
def RedOk (x M : Int) : Prop := ∀ R y, RedTo x M R y → R ≤ 14 ∧ -(10 * M) ≤ y ∧ y ≤ 10 * M ∧ 0 < M + divN y (2 ^ R)
theorem il_start {x M : Int} (h : RedOk x M) : (0 : Int) ≤ 0 ∧ (0 : Int) ≤ 14 ∧ -(10 * M) ≤ x - M ∧ x - M ≤ 10 * M ∧ 0 < M + divN (x - M) (2 ^ Int.toNat 0) ∧ RedTo x M (Int.toNat 0) (x - M) := by
  have h1 := h 0 _ RedTo.zero
  exact ⟨by decide, by decide, h1.2.1, h1.2.2.1, h1.2.2.2, RedTo.zero⟩
end Mine
namespace Mine
theorem IsSq.pos {n s : Int} (h : IsSq n s) : 0 < s := h.1
theorem abs_if (y : Int) : (if y < 0 then -y else y) = (y.natAbs : Int) := by split <;> omega
theorem cond1 {y M R : Int} (h0 : 0 ≤ R) (h8 : R ≤ 8) : M ≤ (if y < 0 then -y else y) * 2 ^ (8 - R).toNat ↔ M * 2 ^ R.toNat ≤ 256 * (y.natAbs : Int) := by
  rw [abs_if]
  have e : (256 : Int) = 2 ^ (8 - R).toNat * 2 ^ R.toNat := by
    rw [← Int.pow_add, show (8 - R).toNat + R.toNat = 8 by omega]; rfl
  have hp : (0 : Int) < 2 ^ R.toNat := Int.pow_pos (by decide)
  rw [e]
  generalize (2 : Int) ^ R.toNat = u at *
  generalize (2 : Int) ^ (8 - R).toNat = v at *
  rw [show v * u * (y.natAbs : Int) = ((y.natAbs : Int) * v) * u by grind]
  exact ⟨fun h => Int.mul_le_mul_of_nonneg_right h (by omega), fun h => Int.le_of_mul_le_mul_right h hp⟩
theorem cond2 {y M R : Int} (h8 : 8 < R) : M ≤ (if y < 0 then -y else y).fdiv (2 ^ (R - 8).toNat) ↔ M * 2 ^ R.toNat ≤ 256 * (y.natAbs : Int) := by
  rw [abs_if]
  have e : (2 : Int) ^ R.toNat = 256 * 2 ^ (R - 8).toNat := by
    rw [show (256 : Int) = 2 ^ 8 by rfl, ← Int.pow_add, show 8 + (R - 8).toNat = R.toNat by omega]
  have hp : (0 : Int) < 2 ^ (R - 8).toNat := Int.pow_pos (by decide)
  rw [e, Int.fdiv_eq_ediv_of_nonneg _ (by omega)]
  generalize (2 : Int) ^ (R - 8).toNat = u at *
  rw [Int.le_ediv_iff_mul_le hp, show M * (256 * u) = 256 * (M * u) by grind]
  omega
theorem il_turn {x M R y s : Int} (h : RedOk x M) (h0 : 0 ≤ R) (hr : RedTo x M R.toNat y) (hc : M * 2 ^ R.toNat ≤ 256 * (y.natAbs : Int)) (hs : IsSq (M * (M + divN y (2 ^ R.toNat))) s) :
    0 ≤ R + 1 ∧ R + 1 ≤ 14 ∧ -(10 * M) ≤ divN (M * y * 2 ^ Int.toNat 1) (M + s) ∧ divN (M * y * 2 ^ Int.toNat 1) (M + s) ≤ 10 * M ∧ 0 < M + divN (divN (M * y * 2 ^ Int.toNat 1) (M + s)) (2 ^ (R + 1).toNat) ∧ RedTo x M (R + 1).toNat (divN (M * y * 2 ^ Int.toNat 1) (M + s)) := by
  have e : (R + 1).toNat = R.toNat + 1 := by omega
  have r := RedTo.succ hr hc hs
  have k := h _ _ r
  rw [e]
  exact ⟨by omega, by omega, k.2.1, k.2.2.1, k.2.2.2, r⟩
end Mine
namespace Mine
theorem T_walk {M : Int} {p : Nat} (hM : M = 10 ^ p) : -(-10 * ((Str.ofString (toString M)).length : Int)).fdiv (3 * 8) = (tays p : Int) := by
  have h : (Str.ofString (toString M)).length = p + 1 := by
    refine nd_eq (x := M) (k := p) (by omega) ?_
    rw [hM, Int.pow_succ]
    have : (0 : Int) < 10 ^ p := Int.pow_pos (by decide)
    omega
  rw [h, Int.fdiv_eq_ediv_of_nonneg _ (by decide)]
  unfold tays
  omega
theorem tays_pos (p : Nat) : 0 < tays p := by unfold tays; omega
theorem T_pos {M : Int} {p : Nat} (hM : M = 10 ^ p) : 0 < -(-10 * ((Str.ofString (toString M)).length : Int)).fdiv (3 * 8) := by
  rw [T_walk hM]; have := tays_pos p; omega
theorem Fit.nat {k : Nat} (n : Nat) (h : n < 2 ^ k) : Fit k (n : Int) := by
  unfold Fit; omega
theorem T_fit {M : Int} {p : Nat} (hM : M = 10 ^ p) (hp : p ≤ 1000) : Fit 20 (-(-10 * ((Str.ofString (toString M)).length : Int)).fdiv (3 * 8)) := by
  rw [T_walk hM]
  refine Fit.nat _ ?_
  unfold tays; omega
end Mine
namespace Mine
theorem divN_le {a b c : Int} (hb : 0 < b) (h : a ≤ c * b) : divN a b ≤ c := by
  have h1 := (divN_bounds a hb).2
  rcases Int.lt_or_le c (divN a b) with h2 | h2
  · exfalso
    have h3 : (c + 1) * b ≤ divN a b * b := Int.mul_le_mul_of_nonneg_right (by omega) (by omega)
    have h4 : (c + 1) * b = c * b + b := by grind
    omega
  · exact h2
theorem le_divN {a b c : Int} (hb : 0 < b) (h : c * b ≤ a) : c ≤ divN a b := by
  have h1 := (divN_bounds a hb).1
  rcases Int.lt_or_le (divN a b) c with h2 | h2
  · exfalso
    have h3 : divN a b * b ≤ (c - 1) * b := Int.mul_le_mul_of_nonneg_right (by omega) (by omega)
    have h4 : (c - 1) * b = c * b - b := by grind
    omega
  · exact h2
theorem ys_half {y M : Int} {R : Nat} (hM : 0 < M) (h : 256 * (y.natAbs : Int) < M * 2 ^ R) : -M ≤ 2 * divN y (2 ^ R) ∧ 2 * divN y (2 ^ R) ≤ M := by
  have hp : (0 : Int) < 2 ^ R := Int.pow_pos (by decide)
  have hb := divN_bounds y hp
  generalize (2 : Int) ^ R = u at *
  generalize divN y u = d at *
  -- |d| u ≤ |y| + u/2 < M u /256 + u/2
  constructor
  · rcases Int.lt_or_le (2 * d) (-M) with h2 | h2
    · exfalso
      have h3 : 2 * d * u ≤ (-M - 1) * u := Int.mul_le_mul_of_nonneg_right (by omega) (by omega)
      have h4 : (-M - 1) * u = -(M * u) - u := by grind
      have h5 : u ≤ M * u := by
        have : 1 * u ≤ M * u := Int.mul_le_mul_of_nonneg_right (by omega) (by omega)
        omega
      have h6 : 2 * d * u = 2 * (d * u) := by grind
      omega
    · exact h2
  · rcases Int.lt_or_le M (2 * d) with h2 | h2
    · exfalso
      have h3 : (M + 1) * u ≤ 2 * d * u := Int.mul_le_mul_of_nonneg_right (by omega) (by omega)
      have h4 : (M + 1) * u = M * u + u := by grind
      have h5 : u ≤ M * u := by
        have : 1 * u ≤ M * u := Int.mul_le_mul_of_nonneg_right (by omega) (by omega)
        omega
      have h6 : 2 * d * u = 2 * (d * u) := by grind
      omega
    · exact h2
theorem hs_start {y M T : Int} {R : Nat} (hM : 0 < M) (hT : 0 < T) (h : 256 * (y.natAbs : Int) < M * 2 ^ R) :
    divN M T = horn M (divN y (2 ^ R)) (divN M T) [] ∧ -(2 * M + 2) ≤ divN M T ∧ divN M T ≤ 2 * M + 2 ∧ -M ≤ 2 * divN y (2 ^ R) ∧ 2 * divN y (2 ^ R) ≤ M := by
  have h1 := divN_abs M hT
  have h2 := ys_half hM h
  refine ⟨rfl, by omega, by omega, h2.1, h2.2⟩
end Mine
namespace Mine
theorem T_hi {M : Int} {p : Nat} (hM : M = 10 ^ p) (hp : p ≤ 1000) : -(-10 * ((Str.ofString (toString M)).length : Int)).fdiv (3 * 8) ≤ 1000 := by
  rw [T_walk hM]; unfold tays; omega
end Mine
namespace Mine
theorem Fit.small {x : Int} (h1 : -1000000 ≤ x) (h2 : x ≤ 1000000) : Fit 20 x := by
  unfold Fit; omega
theorem hs_turn {M ys w0 w k : Int} {pre : List Int} (hM : 0 < M) (hk : 0 < k) (h : w = horn M ys w0 pre) (h1 : -(2 * M + 2) ≤ w) (h2 : w ≤ 2 * M + 2) (h3 : -M ≤ 2 * ys) (h4 : 2 * ys ≤ M) :
    divN M k - divN (ys * w) M = horn M ys w0 (pre ++ [k]) ∧ -(2 * M + 2) ≤ divN M k - divN (ys * w) M ∧ divN M k - divN (ys * w) M ≤ 2 * M + 2 ∧ -M ≤ 2 * ys ∧ 2 * ys ≤ M := by
  have e1 := divN_abs M hk
  have e0 : 0 ≤ divN M k := le_divN hk (by omega)
  have e2 : (2 * ys * w).natAbs ≤ M.natAbs * (2 * M + 2).natAbs := by
    rw [Int.natAbs_mul]
    exact Nat.mul_le_mul (by omega) (by omega)
  have e3 : ((M.natAbs * (2 * M + 2).natAbs : Nat) : Int) = M * (2 * M + 2) := by
    rw [Int.natCast_mul]; congr 1 <;> omega
  have e4 : 2 * ys * w = 2 * (ys * w) := by grind
  have e5 : M * (2 * M + 2) = 2 * ((M + 1) * M) := by grind
  have e8 : (-(M + 1)) * M = -((M + 1) * M) := by grind
  have e6 : divN (ys * w) M ≤ M + 1 := divN_le hM (by omega)
  have e7 : -(M + 1) ≤ divN (ys * w) M := le_divN hM (by omega)
  refine ⟨?_, by omega, by omega, h3, h4⟩
  unfold horn at *
  rw [List.foldl_append, ← h]
  rfl
end Mine
namespace Mine
/-- what _ilog gives back -/
def ilTail (p : Nat) (M : Int) (R : Nat) (y : Int) : Int := divN (horn M (divN y (2 ^ R)) (divN M (tays p)) (downKs ((tays p : Int) - 1) (tays p - 1)) * y) M
def IsIlog (p : Nat) (x M r : Int) : Prop := ∃ R y, RedTo x M R y ∧ 256 * (y.natAbs : Int) < M * 2 ^ R ∧ r = ilTail p M R y
theorem il_end {p : Nat} {x M R y w : Int} (hM : M = 10 ^ p) (hr : RedTo x M R.toNat y) (hc : 256 * (y.natAbs : Int) < M * 2 ^ R.toNat)
    (hw : w = horn M (divN y (2 ^ R.toNat)) (divN M (-(-10 * ((Str.ofString (toString M)).length : Int)).fdiv (3 * 8))) (downKs (-(-10 * ((Str.ofString (toString M)).length : Int)).fdiv (3 * 8) - 1) (-(-10 * ((Str.ofString (toString M)).length : Int)).fdiv (3 * 8) - 1 - 0).toNat)) :
    IsIlog p x M (divN (w * y) M) := by
  refine ⟨_, _, hr, hc, ?_⟩
  rw [T_walk hM] at hw
  rw [hw]
  unfold ilTail
  rw [show ((tays p : Int) - 1 - 0).toNat = tays p - 1 by omega]
end Mine
namespace Mine
def dlC (c k : Int) : Int := if 0 ≤ k then c * 10 ^ k.toNat else divN c (10 ^ (-k).toNat)
theorem f_zero {e l : Int} (h : e + l = 0 ∨ e + l = 1) : (e + l - if decide (1 ≤ e + l) = true then 1 else 0) = 0 := by
  rcases h with h | h <;> rw [h] <;> decide
theorem Fit.ten {k : Nat} {x : Int} (hx : x = 10 ^ k) (hk : k ≤ 300) : Fit 1200 x := by
  unfold Fit
  rw [hx, Int.natAbs_pow]
  have h1 : (10 : Int).natAbs = 10 := rfl
  rw [h1]
  have : (10 : Nat) ^ k ≤ 16 ^ k := Nat.pow_le_pow_left (by decide) k
  have h2 : (16 : Nat) ^ k = 2 ^ (4 * k) := by rw [Nat.pow_mul]
  have : (2 : Nat) ^ (4 * k) < 2 ^ (4 * 300 + 1) := Nat.pow_lt_pow_right (by decide) (by omega)
  have h3 : (10 : Nat) ^ k < 2 ^ 1200 ∨ True := Or.inr trivial
  rcases Nat.lt_or_ge k 300 with h | h
  · have : (2 : Nat) ^ (4 * k) < 2 ^ 1200 := Nat.pow_lt_pow_right (by decide) (by omega)
    omega
  · have : k = 300 := by omega
    subst this
    exact (by decide +kernel : (10:Nat) ^ 300 < 2 ^ 1200)
end Mine
namespace Mine
theorem dlC_pos {c k : Int} (h : 0 ≤ k) : dlC c k = c * 10 ^ k.toNat := if_pos h
theorem dlC_neg {c k : Int} (h : ¬ 0 ≤ k) : dlC c k = divN c (10 ^ (-k).toNat) := if_neg h
theorem ilR1 {c K : Int} {n : Nat} (h : 0 ≤ K) (hR : RedOk (dlC c K) (10 ^ n)) : RedOk (c * 10 ^ K.toNat) (10 ^ (n : Int).toNat) := by
  rw [dlC_pos h] at hR; exact hR
theorem ilR2 {c K : Int} {n : Nat} (h : ¬ 0 ≤ K) (hR : RedOk (dlC c K) (10 ^ n)) : RedOk (divN c (10 ^ (-K).toNat)) (10 ^ (n : Int).toNat) := by
  rw [dlC_neg h] at hR; exact hR
theorem dl_end1 {c K d r : Int} {n : Nat} (h : 0 ≤ K) (hd : IsIlog n (c * 10 ^ K.toNat) (10 ^ (n : Int).toNat) d) (hr : r = divN (0 + d) 100) : ∃ d, IsIlog n (dlC c K) (10 ^ n) d ∧ r = divN d 100 := by
  refine ⟨d, ?_, by rw [hr, Int.zero_add]⟩
  rw [dlC_pos h]; exact hd
theorem dl_end2 {c K d r : Int} {n : Nat} (h : ¬ 0 ≤ K) (hd : IsIlog n (divN c (10 ^ (-K).toNat)) (10 ^ (n : Int).toNat) d) (hr : r = divN (0 + d) 100) : ∃ d, IsIlog n (dlC c K) (10 ^ n) d ∧ r = divN d 100 := by
  refine ⟨d, ?_, by rw [hr, Int.zero_add]⟩
  rw [dlC_neg h]; exact hd
end Mine
namespace Mine
theorem ten_nat (n : Nat) : (10 : Int) ^ (n : Int).toNat = 10 ^ n := by rw [Int.toNat_natCast]
theorem ten_fit {n : Nat} (h : n ≤ 200) : Fit 1500 (20 * (10 : Int) ^ (n : Int).toNat) :=
  Fit.mono (Fit.mul (n := 20) (Fit.small (by decide) (by decide)) (Fit.ten (ten_nat n) (by omega))) (by decide)
end Mine

end
section
namespace Mine
theorem Fit.powOk {k : Nat} {x n : Int} (h : Fit k x) (hn : 0 ≤ n ∧ n ≤ 10000) (hk : k ≤ 10000) : (Builtin.Int.intBits x : Int) * n ≤ 2 ^ 27 := by
  have h1 := h.bits
  have h2 : (Builtin.Int.intBits x : Int) * n ≤ 10000 * 10000 := Int.mul_le_mul (by omega) hn.2 hn.1 (by decide)
  have : (2 : Int) ^ 27 = 134217728 := by decide
  omega
end Mine
end
section
namespace Mine
theorem fmod_rng {D b : Int} (hb : 0 < b) : 0 ≤ D.fmod b ∧ D.fmod b < b := by
  rw [Int.fmod_eq_emod_of_nonneg _ (by omega)]
  exact ⟨Int.emod_nonneg _ (by omega), Int.emod_lt_of_pos _ hb⟩
end Mine
end
section
open PySem PySem.W PyProof.Rows
namespace Mine
section
variable {prog : Program} {w : World} {A : Around} {E : Value → Shared → Prop} {s : Shared} {h₀ : Heap} {L a b : Addr} {m : Str → Option Value} {news : List (Addr × Obj)} {vs ws : List Value} {Q : Value → Shared → Prop}
theorem ints3 {us : List Value} {ns : List Int} (h : IntsAre us ns) (hl : ns.length = 3) : ∃ x y z t u v, us = [.int x t, .int y u, .int z v] := by
  cases h with
  | nil => simp at hl
  | cons x t h =>
    cases h with
    | nil => simp at hl
    | cons y u h =>
      cases h with
      | nil => simp at hl
      | cons z v h =>
        cases h with
        | nil => exact ⟨x, y, z, t, u, v, rfl⟩
        | cons _ _ _ => simp at hl
theorem draw_len {ns : List Int} {x y z : Int} : (List.take 3 ns ++ List.drop ((List.take 3 ns).length : Int).toNat [x, y, z]).length = 3 := by
  rw [List.length_append, List.length_drop, List.length_take]
  simp
  omega
theorem add_draw {ns : List Int} {x y z : Int} (F : Fr h₀ L s.heap m) (N : News h₀ L s.heap news) (ha : s.heap.IsList a vs.toArray) (hb : s.heap.IsList b ws.toArray) (hi : IntsAre vs (List.take 3 ns)) (hj : IntsAre ws (List.drop ((List.take 3 ns).length : Int).toNat [x, y, z]))
    (h : ∀ (D : Addr) (x y z : Int) (t u v : Tok) h', Fr h₀ L h' m → News h₀ L h' ((D, listOf #[.int x t, .int y u, .int z v] 0) :: news) → (∀ p ∈ news, p.1 < D) → Q (.ref D) { s with heap := h' }) :
    wpAny (model prog w) A (binaryOp .Add (.ref a) (.ref b)) Q E s := by
  refine kmk_add_ints F N ha hb hi hj (fun D us h' F' N' l1 hI => ?_) ?_
  · obtain ⟨x, y, z, t, u, v, e⟩ := ints3 hI draw_len
    subst e
    exact h D x y z t u v h' F' N' l1
  · rw [← List.length_append, draw_len]; decide +kernel
end
end Mine

end
section
open PySem PySem.W PyProof.Rows
namespace Mine
/-- the Taylor loop of _iexp: y after i turns -/
def ieT (Ms x : Int) (T : Nat) : Nat → Int
  | 0 => divN x T
  | i + 1 => divN (x * (Ms + ieT Ms x T i)) (Ms * ((T : Int) - 1 - i))
/-- the doublings: y after j turns -/
def ieD (M y0 : Int) (R : Nat) : Nat → Int
  | 0 => y0
  | j + 1 => divN (ieD M y0 R j * (ieD M y0 R j + M * 2 ^ (R + 1 - j))) (M * 2 ^ (R + 1 - j))
def ieY (p : Nat) (x M : Int) (R : Nat) : Int := ieT (M * 2 ^ R) x (tays p) (tays p - 1)
/-- what the walk of _iexp asks -/
def IeOk (p : Nat) (x M : Int) : Prop := ∀ R : Nat, 256 * x < M * 2 ^ R → (R = 0 ∨ M * 2 ^ R ≤ 512 * x) → R ≤ 12 ∧ ∀ j, j ≤ R → 0 ≤ ieD M (ieY p x M R) R j ∧ ieD M (ieY p x M R) R j ≤ 20000 * M
def IsIexp (p : Nat) (x M r : Int) : Prop := ∃ R : Nat, 256 * x < M * 2 ^ R ∧ (R = 0 ∨ M * 2 ^ R ≤ 512 * x) ∧ r = M + ieD M (ieY p x M R) R R
theorem bits_R {a : Int} (ha : 0 ≤ a) : a < 2 ^ (Builtin.Int.intBits a) ∧ (Builtin.Int.intBits a = 0 ∨ 2 ^ (Builtin.Int.intBits a) ≤ 2 * a) := by
  unfold Builtin.Int.intBits
  split
  · rename_i h
    have : a = 0 := by simpa using h
    subst this
    exact ⟨by decide, Or.inl rfl⟩
  · rename_i h
    have h0 : a.natAbs ≠ 0 := by intro e; apply h; simp; omega
    have h1 := (Nat.log2_lt h0).mp (Nat.lt_succ_self _)
    have h2 := Nat.log2_self_le h0
    refine ⟨?_, Or.inr ?_⟩
    · have : ((a.natAbs : Nat) : Int) < ((2 ^ (a.natAbs.log2 + 1) : Nat) : Int) := by exact_mod_cast h1
      rw [show ((2 ^ (a.natAbs.log2 + 1) : Nat) : Int) = 2 ^ (a.natAbs.log2 + 1) by push_cast; rfl] at this
      omega
    · have : ((2 ^ a.natAbs.log2 : Nat) : Int) ≤ ((a.natAbs : Nat) : Int) := by exact_mod_cast h2
      rw [show ((2 ^ a.natAbs.log2 : Nat) : Int) = 2 ^ a.natAbs.log2 by push_cast; rfl] at this
      rw [Int.pow_succ]
      omega
theorem ie_R {x M : Int} (hM : 0 < M) (hx : 0 ≤ x) {R : Nat} (hR : Builtin.Int.intBits ((x * 2 ^ Int.toNat 8).fdiv M) = R) : 256 * x < M * 2 ^ R ∧ (R = 0 ∨ M * 2 ^ R ≤ 512 * x) := by
  have e8 : (2 : Int) ^ Int.toNat 8 = 256 := by decide
  rw [e8, Int.fdiv_eq_ediv_of_nonneg _ (by omega)] at hR
  have h := bits_R (a := x * 256 / M) (Int.ediv_nonneg (by omega) (by omega))
  rw [hR] at h
  have e1 := Int.mul_ediv_add_emod (x * 256) M
  have e2 := Int.emod_nonneg (x * 256) (b := M) (by omega)
  have e3 := Int.emod_lt_of_pos (x * 256) hM
  generalize hq : x * 256 / M = q at *
  generalize hp : (2 : Int) ^ R = P at *
  have m1 : M * (q + 1) ≤ M * P := Int.mul_le_mul_of_nonneg_left (by omega) (by omega)
  have e4 : M * (q + 1) = M * q + M := by grind
  refine ⟨by omega, ?_⟩
  rcases h.2 with h | h
  · exact Or.inl h
  · right
    have m2 : M * P ≤ M * (2 * q) := Int.mul_le_mul_of_nonneg_left h (by omega)
    have e5 : M * (2 * q) = 2 * (M * q) := by grind
    omega
theorem ieT_bound {Ms x y k : Int} (hx : 0 ≤ x) (hM : 256 * x < Ms) (hk : 0 < k) (h0 : 0 ≤ y) (h1 : y ≤ 2 * x) : 0 ≤ divN (x * (Ms + y)) (Ms * k) ∧ divN (x * (Ms + y)) (Ms * k) ≤ 2 * x := by
  have hMk : 0 < Ms * k := Int.mul_pos (by omega) hk
  have hMk2 : Ms ≤ Ms * k := by
    have := Int.mul_le_mul_of_nonneg_left (show 1 ≤ k by omega) (show 0 ≤ Ms by omega)
    omega
  constructor
  · exact le_divN hMk (by have := Int.mul_nonneg hx (show 0 ≤ Ms + y by omega); omega)
  · refine divN_le hMk ?_
    have a := Int.mul_le_mul_of_nonneg_left (show Ms + y ≤ 2 * Ms by omega) hx
    have b := Int.mul_le_mul_of_nonneg_left hMk2 (show 0 ≤ 2 * x by omega)
    have e : x * (2 * Ms) = 2 * x * Ms := by grind
    omega
/-- the start of the Taylor loop -/
theorem ieT_start {Ms x : Int} {T : Nat} (hx : 0 ≤ x) (hT : 0 < T) : divN x T = ieT Ms x T ([] : List Int).length ∧ 0 ≤ divN x T ∧ divN x T ≤ 2 * x := by
  refine ⟨rfl, le_divN (by omega) (by omega), divN_le (by omega) ?_⟩
  have := Int.mul_le_mul_of_nonneg_left (show (1 : Int) ≤ T by omega) (show 0 ≤ 2 * x by omega)
  omega
theorem ieT_turn {Ms x y k : Int} {T : Nat} {pre : List Int} (hx : 0 ≤ x) (hM : 256 * x < Ms) (hk0 : 0 < k) (hk : k = (T : Int) - 1 - (pre.length : Int)) (h : y = ieT Ms x T pre.length) (h0 : 0 ≤ y) (h1 : y ≤ 2 * x) :
    divN (x * (Ms + y)) (Ms * k) = ieT Ms x T (pre ++ [k]).length ∧ 0 ≤ divN (x * (Ms + y)) (Ms * k) ∧ divN (x * (Ms + y)) (Ms * k) ≤ 2 * x := by
  refine ⟨?_, ieT_bound hx hM hk0 h0 h1⟩
  rw [List.length_append, List.length_singleton, ieT, ← h, hk]
theorem ieD_turn {M y0 y k : Int} {R : Nat} {pre : List Int} (hk0 : 0 ≤ k) (hk : k = (R : Int) - 1 - (pre.length : Int)) (h : y = ieD M y0 R pre.length) (hok : ∀ j, j ≤ R → 0 ≤ ieD M y0 R j ∧ ieD M y0 R j ≤ 20000 * M) :
    divN (y * (y + M * 2 ^ (k + 2).toNat)) (M * 2 ^ (k + 2).toNat) = ieD M y0 R (pre ++ [k]).length ∧ 0 ≤ divN (y * (y + M * 2 ^ (k + 2).toNat)) (M * 2 ^ (k + 2).toNat) ∧ divN (y * (y + M * 2 ^ (k + 2).toNat)) (M * 2 ^ (k + 2).toNat) ≤ 20000 * M := by
  have e : (k + 2).toNat = R + 1 - pre.length := by omega
  have e2 : divN (y * (y + M * 2 ^ (k + 2).toNat)) (M * 2 ^ (k + 2).toNat) = ieD M y0 R (pre.length + 1) := by rw [ieD, ← h, e]
  have o := hok (pre.length + 1) (by omega)
  rw [e2, List.length_append, List.length_singleton]
  exact ⟨rfl, o⟩
theorem downKs_len (a : Int) (n : Nat) : (downKs a n).length = n := downKs_length a n
end Mine
namespace Mine
section
variable {M : Model} {A : Around} {E : Value → Shared → Prop} {s : Shared} {env : Env} {Q : Unit → Shared → Prop}
theorem st_T {e : Int} {T : Nat} {t : Tok} (he : e = (T : Int)) (h : wpAny M A (storeName env (Str.ofString "T") (.int (T : Int) t)) Q E s) : wpAny M A (storeName env (Str.ofString "T") (.int e t)) Q E s := by
  rw [he]; exact h
theorem st_R {n R : Nat} {t : Tok} (he : n = R) (h : wpAny M A (storeName env (Str.ofString "R") (.int (R : Int) t)) Q E s) : wpAny M A (storeName env (Str.ofString "R") (.int (n : Int) t)) Q E s := by
  rw [he]; exact h
end
end Mine
namespace Mine
theorem ie_dstart {M x y : Int} {R T : Nat} (h : y = ieT (M * 2 ^ R) x T (downKs ((T : Int) - 1) ((T : Int) - 1 - 0).toNat).length) (h0 : 0 ≤ y) (h1 : y ≤ 2 * x) (hx : x ≤ 4 * M) :
    y = ieD M (ieT (M * 2 ^ R) x T (T - 1)) R ([] : List Int).length ∧ 0 ≤ y ∧ y ≤ 20000 * M := by
  refine ⟨?_, h0, by omega⟩
  rw [downKs_length] at h
  show y = ieT (M * 2 ^ R) x T (T - 1)
  rw [h]; congr 1; omega
theorem ie_end {p : Nat} {x M y : Int} {R T : Nat} (hT : tays p = T) (h1 : 256 * x < M * 2 ^ R) (h2 : R = 0 ∨ M * 2 ^ R ≤ 512 * x) (h : y = ieD M (ieT (M * 2 ^ R) x T (T - 1)) R (downKs ((R : Int) - 1) ((R : Int) - 1 - -1).toNat).length) : IsIexp p x M (M + y) := by
  refine ⟨R, h1, h2, ?_⟩
  rw [downKs_length] at h
  rw [h, ieY, hT]
  congr 2; omega
end Mine
namespace Mine
section
variable {M : Model} {A : Around} {E : Value → Shared → Prop} {s : Shared} {env : Env} {Q : Unit → Shared → Prop}
theorem st_Ms {m : Int} {R : Nat} {t : Tok} (h : wpAny M A (storeName env (Str.ofString "Mshift") (.int (m * 2 ^ R) t)) Q E s) : wpAny M A (storeName env (Str.ofString "Mshift") (.int (m * 2 ^ (R : Int).toNat) t)) Q E s := by
  rw [Int.toNat_natCast]; exact h
end
end Mine

end
end
section
namespace Mine
/-! the reductions of _ilog against the logarithm -/
section
variable {M x y s : Int} {R : Nat}
theorem c2pos (R : Nat) : (0 : Rat) < 2 ^ R := Rat.pow_pos (by decide)
theorem cast_two_pow (R : Nat) : (((2 : Int) ^ R : Int) : Rat) = (2 : Rat) ^ R := by
  rw [Rat.intCast_pow]; rfl
/-- divN in the rationals -/
theorem divN_rat (a : Int) {b : Int} (hb : 0 < b) : -(1 / 2 : Rat) ≤ (divN a b : Rat) - (a : Rat) / b ∧ (divN a b : Rat) - (a : Rat) / b ≤ 1 / 2 := by
  obtain ⟨h1, h2⟩ := divN_bounds a hb
  have hb' : (0 : Rat) < b := by exact_mod_cast hb
  have g1 : (2 : Rat) * a - b ≤ 2 * (divN a b * b) := by exact_mod_cast h1
  have g2 : (2 : Rat) * (divN a b * b) ≤ 2 * a + b := by exact_mod_cast h2
  have e := fld3 (A := (b : Rat)) (B := (a : Rat)) hb'
  generalize (divN a b : Rat) = d at *
  generalize (a : Rat) / b = q at *
  constructor
  · rcases rlt_or_le (d - q) (-(1 / 2)) with h | h
    · have := Rat.mul_lt_mul_of_pos_right h hb'
      grind
    · exact h
  · rcases rlt_or_le (1 / 2) (d - q) with h | h
    · have := Rat.mul_lt_mul_of_pos_right h hb'
      grind
    · exact h
end
/-- one reduction in the rationals: v, w = s / M, v' -/
theorem red_core {m v w v' r a δ κ : Rat} (hm : 0 < m) (hw : 0 < w) (ha : a * (1 + w) = v) (hv' : v' = a + δ) 
    (hr1 : -κ ≤ r - v) (hr2 : r - v ≤ κ) (hs1 : w * w - 1 - r ≤ w / m) (hs2 : -(w / m) ≤ w * w - 1 - r) :
    ∃ η : Rat, (1 + v) - (1 + v') * (1 + v') = a * η - 2 * (1 + v') * δ + δ * δ ∧ -(w / m + κ) ≤ η * (1 + w) ∧ η * (1 + w) ≤ w / m + κ := by
  refine ⟨(w * w - 1 - v) / (1 + w), ?_, ?_, ?_⟩
  · subst hv'
    have hw1 : 1 + w ≠ 0 := by grind
    have e : a * ((w * w - 1 - v) / (1 + w)) = a * (w - 1 - a) := by
      rw [← ha]
      grind
    rw [e, ← ha]
    grind
  · have : (w * w - 1 - v) / (1 + w) * (1 + w) = w * w - 1 - v := fld3 (by grind)
    grind
  · have : (w * w - 1 - v) / (1 + w) * (1 + w) = w * w - 1 - v := fld3 (by grind)
    grind
end Mine

end
section
namespace Mine
/-- v = y / (2^R M) -/
def vr (M : Int) (R : Nat) (y : Int) : Rat := (y : Rat) / (2 ^ R * M)
theorem rabs_mul {a b A B : Rat} (h1 : -A ≤ a) (h2 : a ≤ A) (h3 : -B ≤ b) (h4 : b ≤ B) : -(A * B) ≤ a * b ∧ a * b ≤ A * B := by
  have c1 := Rat.mul_nonneg (show 0 ≤ A - a by grind) (show 0 ≤ B - b by grind)
  have c2 := Rat.mul_nonneg (show 0 ≤ A - a by grind) (show 0 ≤ B + b by grind)
  have c3 := Rat.mul_nonneg (show 0 ≤ A + a by grind) (show 0 ≤ B - b by grind)
  have c4 := Rat.mul_nonneg (show 0 ≤ A + a by grind) (show 0 ≤ B + b by grind)
  constructor <;> grind
theorem divN_one (y : Int) : divN y 1 = y := by
  unfold divN
  rw [Int.ediv_one, Int.emod_one]
  split
  · omega
  · omega
theorem fld4 {P m t y' z : Rat} (hP : 0 < P) (hm : 0 < m) (ht : 0 < t) : 4 * (P * m) * (y' / (P * 2 * m) - z / (P * m) / (1 + t / m)) = 2 * (y' - m * z * 2 / (m + t)) := by
  have h1 : P ≠ 0 := by grind
  have h2 : m ≠ 0 := by grind
  have h3 : m + t ≠ 0 := by grind
  have h4 : 1 + t / m ≠ 0 := by
    have := rdiv_pos ht hm
    grind
  have e1 : 4 * (P * m) * (y' / (P * 2 * m)) = 2 * y' := by grind
  have e2 : (1 + t / m) * m = m + t := by grind
  have e3 : z / (P * m) / (1 + t / m) * ((P * m) * (m + t)) = m * z := by
    rw [← e2]
    have : z / (P * m) / (1 + t / m) * (1 + t / m) = z / (P * m) := by grind
    have k : z / (P * m) / (1 + t / m) * (P * m * ((1 + t / m) * m)) = (z / (P * m) / (1 + t / m) * (1 + t / m)) * (P * m) * m := by grind
    rw [k, this]
    have : z / (P * m) * (P * m) = z := by
      have : P * m ≠ 0 := by grind
      grind
    rw [this]; grind
  have e4 : z / (P * m) / (1 + t / m) * (P * m) = m * z / (m + t) := by
    generalize z / (P * m) / (1 + t / m) = X at *
    grind
  have e5 : 4 * (P * m) * (z / (P * m) / (1 + t / m)) = 4 * (m * z / (m + t)) := by rw [← e4]; grind
  have e6 : m * z * 2 / (m + t) = 2 * (m * z / (m + t)) := by grind
  rw [e6]
  generalize y' / (P * 2 * m) = A at *
  generalize z / (P * m) / (1 + t / m) = B at *
  generalize m * z / (m + t) = D at *
  have e7 : 4 * (P * m) * (A - B) = 4 * (P * m) * A - 4 * (P * m) * B := by grind
  rw [e7, e1, e5]
  grind
/-- the facts of one reduction -/
theorem step_facts {M y s : Int} {R : Nat} (hM : 0 < M) (hs : IsSq (M * (M + divN y (2 ^ R))) s) (κ : Rat) (hκ : κ = 1 / 2 ∨ (R = 0 ∧ κ = 0)) :
    ∃ a δ η : Rat, vr M (R + 1) (divN (M * y * 2) (M + s)) = a + δ ∧ -1 ≤ 4 * (2 ^ R * M) * δ ∧ 4 * (2 ^ R * M) * δ ≤ 1 ∧
      (1 + vr M R y) - (1 + vr M (R + 1) (divN (M * y * 2) (M + s))) * (1 + vr M (R + 1) (divN (M * y * 2) (M + s))) = a * η - 2 * (1 + vr M (R + 1) (divN (M * y * 2) (M + s))) * δ + δ * δ ∧
      -((s : Rat) / M + κ) ≤ η * (1 + (s : Rat) / M) * M ∧ η * (1 + (s : Rat) / M) * M ≤ (s : Rat) / M + κ := by
  have hm : (0 : Rat) < M := by exact_mod_cast hM
  have hs0 : (0 : Rat) < s := by exact_mod_cast hs.1
  have hP := c2pos R
  have hw : 0 < (s : Rat) / M := rdiv_pos hs0 hm
  have d1 := divN_rat (M * y * 2) (b := M + s) (by have := hs.1; omega)
  -- the root
  have q1 : (s : Rat) * s - s ≤ M * (M + divN y (2 ^ R)) := by
    have := hs.2.1
    have h : s * s - s ≤ M * (M + divN y (2 ^ R)) := by omega
    exact_mod_cast h
  have q2 : (M : Rat) * (M + divN y (2 ^ R)) ≤ (s : Rat) * s + s := by exact_mod_cast hs.2.2
  have hr : -κ ≤ (divN y (2 ^ R) : Rat) - (y : Rat) / 2 ^ R ∧ (divN y (2 ^ R) : Rat) - (y : Rat) / 2 ^ R ≤ κ := by
    rcases hκ with h | ⟨h0, h⟩
    · have := divN_rat y (b := 2 ^ R) (Int.pow_pos (by decide))
      rw [cast_two_pow] at this
      rw [h]
      constructor <;> grind
    · subst h0 h
      rw [show (2 : Int) ^ 0 = 1 from rfl, divN_one, Rat.pow_zero]
      constructor <;> grind
  generalize (divN y (2 ^ R) : Rat) = ρ at *
  generalize hy' : (divN (M * y * 2) (M + s) : Rat) = y' at *
  have eM : (((M * y * 2 : Int) : Rat)) = M * y * 2 := by push_cast; rfl
  have eS : (((M + s : Int) : Rat)) = M + s := by push_cast; rfl
  rw [eM, eS] at d1
  unfold vr
  rw [hy', Rat.pow_succ]
  generalize (2 : Rat) ^ R = P at *
  generalize (M : Rat) = m at *
  generalize (s : Rat) = t at *
  generalize (y : Rat) = z at *
  have hm0 : m ≠ 0 := by grind
  have hP0 : P ≠ 0 := by grind
  have hPm : 0 < P * m := Rat.mul_pos hP hm
  have hw1 : 0 < 1 + t / m := by grind
  have core := red_core (m := m) (v := z / (P * m)) (w := t / m) (v' := y' / (P * 2 * m)) (r := ρ / m) (a := z / (P * m) / (1 + t / m)) (δ := y' / (P * 2 * m) - z / (P * m) / (1 + t / m)) (κ := κ / m) hm hw (fld3 hw1) (by grind)
    (by
      have e : ρ / m - z / (P * m) = (ρ - z / P) / m := by grind
      rw [e]
      refine le_rdiv hm ?_
      have : -(κ / m) * m = -κ := by grind
      grind)
    (by
      have e : ρ / m - z / (P * m) = (ρ - z / P) / m := by grind
      rw [e]
      refine rdiv_le hm ?_
      have : κ / m * m = κ := by grind
      grind)
    (by
      have e : t / m * (t / m) - 1 - ρ / m = (t * t - m * (m + ρ)) / (m * m) := by grind
      rw [e]
      refine rdiv_le (Rat.mul_pos hm hm) ?_
      have : t / m / m * (m * m) = t := by grind
      grind)
    (by
      have e : t / m * (t / m) - 1 - ρ / m = (t * t - m * (m + ρ)) / (m * m) := by grind
      rw [e]
      refine le_rdiv (Rat.mul_pos hm hm) ?_
      have : -(t / m / m) * (m * m) = -t := by grind
      grind)
  obtain ⟨η, c1, c2, c3⟩ := core
  refine ⟨z / (P * m) / (1 + t / m), y' / (P * 2 * m) - z / (P * m) / (1 + t / m), η, by grind, ?_, ?_, c1, ?_, ?_⟩
  · rw [fld4 hP hm hs0]; grind
  · rw [fld4 hP hm hs0]; grind
  · have h := Rat.mul_le_mul_of_nonneg_right c2 (Rat.le_of_lt hm)
    have e : -(t / m / m + κ / m) * m = -(t / m + κ) := by grind
    grind
  · have h := Rat.mul_le_mul_of_nonneg_right c3 (Rat.le_of_lt hm)
    have e : (t / m / m + κ / m) * m = t / m + κ := by grind
    grind
end Mine

end
section
namespace Mine
theorem rpow_add (a : Rat) (m : Nat) : ∀ n : Nat, a ^ (m + n) = a ^ m * a ^ n
  | 0 => by rw [Nat.add_zero, Rat.pow_zero, Rat.mul_one]
  | n + 1 => by rw [← Nat.add_assoc, Rat.pow_succ, Rat.pow_succ, rpow_add a m n]; grind
def Qr (x M : Int) (R : Nat) (y : Int) : Rat := ((x : Rat) / M) / (1 + vr M R y) ^ (2 ^ R : Nat)
/-- log (x / M) lies within A of 2^R log (1 + v) -/
def IlInv (x M : Int) (R : Nat) (y : Int) (A : Rat) : Prop := 0 < 1 + vr M R y ∧ Lg (-A) (Qr x M R y) ∧ Ug A (Qr x M R y)
theorem IlInv.zero {x M : Int} (hM : 0 < M) (hx : 0 < x) : IlInv x M 0 (x - M) 0 := by
  have hm : (0 : Rat) < M := by exact_mod_cast hM
  have hx' : (0 : Rat) < x := by exact_mod_cast hx
  have e : 1 + vr M 0 (x - M) = (x : Rat) / M := by
    unfold vr
    rw [Rat.pow_zero]
    have : (((x - M : Int)) : Rat) = x - M := by push_cast; rfl
    rw [this]
    have : (M : Rat) ≠ 0 := by grind
    grind
  have hp : 0 < (x : Rat) / M := rdiv_pos hx' hm
  have q : Qr x M 0 (x - M) = 1 := by
    unfold Qr
    rw [e, show (2 : Nat) ^ 0 = 1 from rfl, Rat.pow_succ, Rat.pow_zero]
    have : (x : Rat) / M ≠ 0 := by grind
    grind
  refine ⟨by rw [e]; exact hp, ?_, ?_⟩
  · rw [q]; exact Lg.zero.mono (by grind) (by grind)
  · rw [q]; exact Ug.zero
theorem IlInv.step {x M y y' : Int} {R : Nat} {A n l : Rat} (h : IlInv x M R y A) (hv' : 0 < 1 + vr M (R + 1) y') (hl : 0 < l) (hn : 0 ≤ n) (l1 : l ≤ 1 + vr M R y) (l2 : l ≤ (1 + vr M (R + 1) y') * (1 + vr M (R + 1) y'))
    (h1 : -n ≤ (1 + vr M R y) - (1 + vr M (R + 1) y') * (1 + vr M (R + 1) y')) (h2 : (1 + vr M R y) - (1 + vr M (R + 1) y') * (1 + vr M (R + 1) y') ≤ n) : IlInv x M (R + 1) y' (A + 2 ^ R * (n / l)) := by
  obtain ⟨h0, hL, hU⟩ := h
  generalize ha : 1 + vr M R y = a at *
  generalize hb : 1 + vr M (R + 1) y' = b at *
  have hbb : 0 < b * b := Rat.mul_pos hv' hv'
  have hρ : 0 < a / (b * b) := rdiv_pos h0 hbb
  have hnl : 0 ≤ n / l := le_rdiv hl (by grind)
  have nl : n / l * l = n := fld3 hl
  have bL : Lg (-(n / l)) (a / (b * b)) := by
    refine (Lg.basic (t := b * b / a) (rdiv_pos hbb h0) ?_).mono ?_ Rat.le_refl
    · rw [rdiv_mul hbb]
      have : a / a = 1 := by have : a ≠ 0 := by grind
                             grind
      grind
    · have : b * b / a ≤ 1 + n / l := by
        refine rdiv_le h0 ?_
        have := Rat.mul_nonneg hnl (show 0 ≤ a - l by grind)
        grind
      grind
  have bU : Ug (n / l) (a / (b * b)) := by
    refine (Ug.basic hρ).mono ?_ Rat.le_refl
    have : a / (b * b) ≤ 1 + n / l := by
      refine rdiv_le hbb ?_
      have := Rat.mul_nonneg hnl (show 0 ≤ b * b - l by grind)
      grind
    grind
  have eQ : Qr x M (R + 1) y' = Qr x M R y * (a / (b * b)) ^ (2 ^ R : Nat) := by
    unfold Qr
    rw [ha, hb]
    have e1 : b ^ (2 ^ (R + 1) : Nat) = (b * b) ^ (2 ^ R : Nat) := by
      rw [rmul_pow, ← rpow_add]
      congr 1
      rw [Nat.pow_succ]; omega
    have e2 : a ^ (2 ^ R : Nat) = (a / (b * b)) ^ (2 ^ R : Nat) * (b * b) ^ (2 ^ R : Nat) := by
      rw [← rmul_pow, fld3 hbb]
    rw [e1, e2]
    have p1 : (a / (b * b)) ^ (2 ^ R : Nat) ≠ 0 := by have := rpow_pos hρ (2 ^ R); grind
    have p2 : (b * b) ^ (2 ^ R : Nat) ≠ 0 := by have := rpow_pos hbb (2 ^ R); grind
    generalize (a / (b * b)) ^ (2 ^ R : Nat) = U at *
    generalize (b * b) ^ (2 ^ R : Nat) = V at *
    generalize (x : Rat) / M = X at *
    grind
  have cst : (((2 ^ R : Nat)) : Rat) = (2 : Rat) ^ R := by push_cast; rfl
  refine ⟨by rw [hb]; exact hv', ?_, ?_⟩
  · rw [eQ]
    refine (Lg.add hL (Lg.pow bL (2 ^ R))).mono ?_ Rat.le_refl
    rw [cst]; grind
  · rw [eQ]
    refine (Ug.add (rpow_pos hρ _) hU (Ug.pow hρ bU (2 ^ R))).mono ?_ Rat.le_refl
    rw [cst]; grind
/-- what comes of it: log (x / M) from 2^R log (1 + v) -/
theorem IlInv.lo {x M y : Int} {R : Nat} {A r : Rat} (h : IlInv x M R y A) (hr : Lg r (1 + vr M R y)) : Lg (2 ^ R * r - A) ((x : Rat) / M) := by
  obtain ⟨h0, hL, hU⟩ := h
  have p := rpow_pos h0 (2 ^ R)
  have e : Qr x M R y * (1 + vr M R y) ^ (2 ^ R : Nat) = (x : Rat) / M := fld3 p
  have cst : (((2 ^ R : Nat)) : Rat) = (2 : Rat) ^ R := by push_cast; rfl
  have k := Lg.add hL (Lg.pow hr (2 ^ R))
  rw [e, cst] at k
  exact k.mono (by grind) Rat.le_refl
theorem IlInv.hi {x M y : Int} {R : Nat} {A r : Rat} (h : IlInv x M R y A) (hr : Ug r (1 + vr M R y)) : Ug (2 ^ R * r + A) ((x : Rat) / M) := by
  obtain ⟨h0, hL, hU⟩ := h
  have p := rpow_pos h0 (2 ^ R)
  have e : Qr x M R y * (1 + vr M R y) ^ (2 ^ R : Nat) = (x : Rat) / M := fld3 p
  have cst : (((2 ^ R : Nat)) : Rat) = (2 : Rat) ^ R := by push_cast; rfl
  have k := Ug.add p hU (Ug.pow h0 hr (2 ^ R))
  rw [e, cst] at k
  exact k.mono (by grind) Rat.le_refl
end Mine

end
section
namespace Mine
open PySem.W
theorem cast_k {M : Int} (h : 1000 ≤ M) : (1000 : Rat) ≤ M := by
  have := Rat.intCast_le_intCast.mpr h
  rwa [show (((1000 : Int)) : Rat) = 1000 from rfl] at this
theorem downKs_succ (a : Int) (n : Nat) : downKs a (n + 1) = downKs a n ++ [a - n] := by
  unfold downKs
  rw [List.range_succ, List.map_append]; rfl
theorem horn_succ (M ys w a : Int) (n : Nat) : horn M ys w (downKs a (n + 1)) = divN M (a - n) - divN (ys * horn M ys w (downKs a n)) M := by
  rw [downKs_succ]; unfold horn; rw [List.foldl_append]; rfl
/-- the ideal Horner -/
def idU (v : Rat) (T : Nat) : Nat → Rat
  | 0 => 1 / (T : Rat)
  | i + 1 => 1 / ((T - 1 - i : Nat) : Rat) - v * idU v T i
theorem idU_lgS (v : Rat) (T : Nat) : ∀ i : Nat, i + 1 ≤ T → lgS v T - lgS v (T - 1 - i) = -((-v) ^ (T - i)) * idU v T i
  | 0, h => by
    obtain ⟨S, rfl⟩ : ∃ S, T = S + 1 := ⟨T - 1, by omega⟩
    simp only [idU, Nat.sub_zero, Nat.add_sub_cancel, lgS]
    push_cast
    grind
  | i + 1, h => by
    have ih := idU_lgS v T i (by omega)
    obtain ⟨S, hS⟩ : ∃ S, T - 1 - i = S + 1 := ⟨T - 1 - i - 1, by omega⟩
    have e1 : T - 1 - (i + 1) = S := by omega
    have e2 : T - (i + 1) = S + 1 := by omega
    have e3 : T - i = S + 1 + 1 := by omega
    rw [hS, e3] at ih
    rw [e1, e2]
    simp only [idU, hS]
    simp only [lgS] at ih
    rw [Rat.pow_succ (-v) (S + 1)] at ih
    push_cast at ih ⊢
    generalize (-v) ^ (S + 1) = X at *
    have hS0 : (S : Rat) + 1 ≠ 0 := by
      have : (0 : Rat) ≤ S := Rat.natCast_nonneg
      grind
    grind
theorem idU_one (v : Rat) {T : Nat} (hT : 1 ≤ T) : v * idU v T (T - 1) = lgS v T := by
  have := idU_lgS v T (T - 1) (by omega)
  rw [show T - 1 - (T - 1) = 0 by omega, show T - (T - 1) = 1 by omega, Rat.pow_succ, Rat.pow_zero] at this
  simp only [lgS] at this
  grind
theorem one_div_le {n : Nat} (hn : 2 ≤ n) : 0 ≤ 1 / (n : Rat) ∧ 1 / (n : Rat) ≤ 1 / 2 := by
  have h : (2 : Rat) ≤ n := by exact_mod_cast hn
  exact ⟨le_rdiv (by grind) (by grind), rdiv_le (by grind) (by grind)⟩
/-- the Horner loop of ints against the ideal one -/
theorem horn_err {M ys : Int} {v κ : Rat} {T : Nat} (hM : 1000 ≤ M) (hT : 2 ≤ T) (hv1 : -(1 / 256) ≤ v) (hv2 : v ≤ 1 / 256)
    (hk0 : 0 ≤ κ) (hk1 : κ ≤ 1 / 2) (hy1 : -κ ≤ (ys : Rat) - v * M) (hy2 : (ys : Rat) - v * M ≤ κ) : ∀ i : Nat, i + 2 ≤ T →
    -(3 / 2 : Rat) ≤ (horn M ys (divN M T) (downKs ((T : Int) - 1) i) : Rat) - M * idU v T i ∧ (horn M ys (divN M T) (downKs ((T : Int) - 1) i) : Rat) - M * idU v T i ≤ 3 / 2 ∧ -(13 / 25 : Rat) ≤ idU v T i ∧ idU v T i ≤ 13 / 25
  | 0, h => by
    have d := divN_rat M (b := (T : Int)) (by omega)
    have o := one_div_le hT
    have e : horn M ys (divN M T) (downKs ((T : Int) - 1) 0) = divN M T := rfl
    rw [e]
    simp only [idU]
    have e2 : (M : Rat) * (1 / (T : Rat)) = (M : Rat) / ((T : Int) : Rat) := by
      rw [Rat.intCast_natCast]
      grind
    rw [e2]
    refine ⟨?_, ?_, ?_, ?_⟩ <;> grind
  | i + 1, h => by
    obtain ⟨a, b, c, d⟩ := horn_err hM hT hv1 hv2 hk0 hk1 hy1 hy2 i (by omega)
    rw [horn_succ]
    have k1 : (T : Int) - 1 - i = ((T - 1 - i : Nat) : Int) := by omega
    rw [k1]
    have d1 := divN_rat M (b := ((T - 1 - i : Nat) : Int)) (by omega)
    have d2 := divN_rat (ys * horn M ys (divN M T) (downKs ((T : Int) - 1) i)) (b := M) (by omega)
    have o := one_div_le (n := T - 1 - i) (by omega)
    have hm := cast_k hM
    simp only [idU]
    generalize horn M ys (divN M T) (downKs ((T : Int) - 1) i) = w at *
    have ec : (((ys * w : Int)) : Rat) = ys * w := by push_cast; rfl
    rw [ec] at d2
    rw [Rat.intCast_natCast] at d1
    have esub : (((divN M ((T - 1 - i : Nat) : Int) - divN (ys * w) M : Int)) : Rat) = (divN M ((T - 1 - i : Nat) : Int) : Rat) - (divN (ys * w) M : Rat) := by push_cast; rfl
    rw [esub]
    generalize (divN M ((T - 1 - i : Nat) : Int) : Rat) = D1 at *
    generalize (divN (ys * w) M : Rat) = D2 at *
    generalize idU v T i = U at *
    generalize hn : ((T - 1 - i : Nat) : Rat) = n at *
    generalize (ys : Rat) = z at *
    generalize (w : Rat) = W at *
    generalize (M : Rat) = m at *
    have hn1 : m * (1 / n) = m / n := by grind
    have hm0 : m ≠ 0 := by grind
    -- z W / m = v m U + (z/m)(W - m U) + (z - v m) U
    have ez : z * W / m = v * m * U + z / m * (W - m * U) + (z - v * m) * U := by grind
    have hz1 : -(1 / 200 : Rat) ≤ z / m := le_rdiv (by grind) (by
      have := Rat.mul_nonneg (show (0 : Rat) ≤ v + 1 / 256 by grind) (show (0 : Rat) ≤ m by grind)
      grind)
    have hz2 : z / m ≤ 1 / 200 := rdiv_le (by grind) (by
      have := Rat.mul_nonneg (show (0 : Rat) ≤ 1 / 256 - v by grind) (show (0 : Rat) ≤ m by grind)
      grind)
    have p1 := rabs_mul hz1 hz2 a b
    have p2 := rabs_mul (A := 1 / 2) (B := 13 / 25) (show -(1 / 2) ≤ z - v * m by grind) (by grind) c d
    have p3 := rabs_mul hv1 hv2 c d
    have em : m * (1 / n - v * U) = m / n - v * m * U := by grind
    rw [em]
    rw [ez] at d2
    generalize z / m * (W - m * U) = X1 at *
    generalize (z - v * m) * U = X2 at *
    refine ⟨?_, ?_, ?_, ?_⟩ <;> grind
/-- the last turn, and the product -/
theorem tail_err {M ys y : Int} {v κ : Rat} {T R : Nat} (hM : 1000 ≤ M) (hT : 2 ≤ T) (hv1 : -(1 / 256) ≤ v) (hv2 : v ≤ 1 / 256) (hvy : v * (2 ^ R * M) = y)
    (hk0 : 0 ≤ κ) (hk1 : κ ≤ 1 / 2) (hy1 : -κ ≤ (ys : Rat) - v * M) (hy2 : (ys : Rat) - v * M ≤ κ) {Y : Rat} (hY1 : -Y ≤ (y : Rat)) (hY2 : (y : Rat) ≤ Y) :
    -(1 / 2 + (51 / 100 + 13 / 25 * κ) * (Y / M)) ≤ (divN (horn M ys (divN M T) (downKs ((T : Int) - 1) (T - 1)) * y) M : Rat) - 2 ^ R * M * lgS v T ∧
    (divN (horn M ys (divN M T) (downKs ((T : Int) - 1) (T - 1)) * y) M : Rat) - 2 ^ R * M * lgS v T ≤ 1 / 2 + (51 / 100 + 13 / 25 * κ) * (Y / M) := by
  obtain ⟨a, b, c, d⟩ := horn_err hM hT hv1 hv2 hk0 hk1 hy1 hy2 (T - 2) (by omega)
  obtain ⟨S, rfl⟩ : ∃ S, T = S + 2 := ⟨T - 2, by omega⟩
  rw [show S + 2 - 1 = S + 1 by omega, horn_succ]
  rw [show S + 2 - 2 = S by omega] at a b c d
  have k1 : ((S + 2 : Nat) : Int) - 1 - (S : Nat) = 1 := by omega
  rw [k1, divN_one]
  have hI := idU_one v (T := S + 2) (by omega)
  rw [show S + 2 - 1 = S + 1 by omega] at hI
  have hm := cast_k hM
  simp only [idU] at hI
  rw [show S + 2 - 1 - S = 1 by omega] at hI
  generalize horn M ys (divN M ((S + 2 : Nat) : Int)) (downKs (((S + 2 : Nat) : Int) - 1) S) = w at *
  generalize idU v (S + 2) S = U at *
  have d2 := divN_rat (ys * w) (b := M) (by omega)
  have d3 := divN_rat ((M - divN (ys * w) M) * y) (b := M) (by omega)
  have ec : (((ys * w : Int)) : Rat) = ys * w := by push_cast; rfl
  rw [ec] at d2
  have ec2 : ((((M - divN (ys * w) M) * y : Int)) : Rat) = (M - divN (ys * w) M) * y := by push_cast; rfl
  rw [ec2] at d3
  generalize (divN ((M - divN (ys * w) M) * y) M : Rat) = D at *
  generalize (divN (ys * w) M : Rat) = D2 at *
  rw [← hI, show (((1 : Nat)) : Rat) = 1 from rfl]
  have e4 : 2 ^ R * M * (v * (1 / 1 - v * U)) = (v * (2 ^ R * M)) * (1 - v * U) := by grind
  rw [e4, hvy]
  generalize (y : Rat) = q at *
  generalize (ys : Rat) = z at *
  generalize (w : Rat) = W at *
  generalize (M : Rat) = m at *
  have hm0 : m ≠ 0 := by grind
  have ez : z * W / m = v * m * U + z / m * (W - m * U) + (z - v * m) * U := by grind
  have hz1 : -(1 / 200 : Rat) ≤ z / m := le_rdiv (by grind) (by
    have := Rat.mul_nonneg (show (0 : Rat) ≤ v + 1 / 256 by grind) (show (0 : Rat) ≤ m by grind)
    grind)
  have hz2 : z / m ≤ 1 / 200 := rdiv_le (by grind) (by
    have := Rat.mul_nonneg (show (0 : Rat) ≤ 1 / 256 - v by grind) (show (0 : Rat) ≤ m by grind)
    grind)
  have p1 := rabs_mul hz1 hz2 a b
  have p2 := rabs_mul hy1 hy2 c d
  rw [ez] at d2
  -- m - D2 = m (1 - v U) + small
  have hE1 : -(51 / 100 + 13 / 25 * κ) ≤ (m - D2) - m * (1 - v * U) := by grind
  have hE2 : (m - D2) - m * (1 - v * U) ≤ 51 / 100 + 13 / 25 * κ := by grind
  have hq1 : -(Y / m) ≤ q / m := by
    refine le_rdiv (by grind) ?_
    have : Y / m * m = Y := fld3 (by grind)
    grind
  have hq2 : q / m ≤ Y / m := by
    refine rdiv_le (by grind) ?_
    have : Y / m * m = Y := fld3 (by grind)
    grind
  have p3 := rabs_mul hE1 hE2 hq1 hq2
  have e5 : (m - D2) * q / m = q * (1 - v * U) + ((m - D2) - m * (1 - v * U)) * (q / m) := by grind
  rw [e5] at d3
  generalize ((m - D2) - m * (1 - v * U)) * (q / m) = X at *
  constructor <;> grind
end Mine

end
section
namespace Mine
open PySem.W
theorem vr_eq {M y : Int} {R : Nat} (hM : 0 < M) : vr M R y * (2 ^ R * M) = y := by
  have hm : (0 : Rat) < M := by exact_mod_cast hM
  exact fld3 (Rat.mul_pos (c2pos R) hm)
theorem step_N {M y s : Int} {R : Nat} {θ κ Y : Rat} (hM : 0 < M) (hs : IsSq (M * (M + divN y (2 ^ R))) s) (hκ : κ = 1 / 2 ∨ (R = 0 ∧ κ = 0))
    (hθ : (s : Rat) / M + κ ≤ θ * (1 + (s : Rat) / M)) (hY1 : -Y ≤ (divN (M * y * 2) (M + s) : Rat)) (hY2 : (divN (M * y * 2) (M + s) : Rat) ≤ Y)
    (hv' : 0 < 1 + vr M (R + 1) (divN (M * y * 2) (M + s))) :
    -(θ * (Y / (2 * M) + 1 / (4 * M)) + (1 + vr M (R + 1) (divN (M * y * 2) (M + s))) / 2 + 1 / (16 * M)) ≤ 2 ^ R * M * ((1 + vr M R y) - (1 + vr M (R + 1) (divN (M * y * 2) (M + s))) * (1 + vr M (R + 1) (divN (M * y * 2) (M + s)))) ∧
    2 ^ R * M * ((1 + vr M R y) - (1 + vr M (R + 1) (divN (M * y * 2) (M + s))) * (1 + vr M (R + 1) (divN (M * y * 2) (M + s)))) ≤ θ * (Y / (2 * M) + 1 / (4 * M)) + (1 + vr M (R + 1) (divN (M * y * 2) (M + s))) / 2 + 1 / (16 * M) := by
  obtain ⟨a, δ, η, f1, f2, f3, f4, f5, f6⟩ := step_facts hM hs κ hκ
  have hm : (0 : Rat) < M := by exact_mod_cast hM
  have hs0 : (0 : Rat) < s := by exact_mod_cast hs.1
  have hw : 0 < (s : Rat) / M := rdiv_pos hs0 hm
  have hP := c2pos R
  have hP1 : (1 : Rat) ≤ 2 ^ R := by
    have : ∀ R : Nat, (1 : Rat) ≤ 2 ^ R := by
      intro R
      induction R with
      | zero => rw [Rat.pow_zero]; grind
      | succ R ih => rw [Rat.pow_succ]; grind
    exact this R
  have ev := vr_eq (R := R + 1) (y := divN (M * y * 2) (M + s)) hM
  rw [Rat.pow_succ] at ev
  generalize hy' : divN (M * y * 2) (M + s) = y' at *
  generalize hvv : vr M (R + 1) y' = v' at *
  have hm2 : 0 < (2 : Rat) ^ R * M := Rat.mul_pos hP hm
  have hw1 : 0 < 1 + (s : Rat) / M := by grind
  -- |η| m ≤ θ
  have hη1 : -θ ≤ η * M := by
    rcases rlt_or_le (η * M) (-θ) with g | g
    · have := Rat.mul_lt_mul_of_pos_right g hw1
      grind
    · exact g
  have hη2 : η * M ≤ θ := by
    rcases rlt_or_le θ (η * M) with g | g
    · have := Rat.mul_lt_mul_of_pos_right g hw1
      grind
    · exact g
  -- P |a|
  have ha : a = v' - δ := by grind
  have hPa1 : -(Y / (2 * M) + 1 / (4 * M)) ≤ 2 ^ R * a := by
    have e1 : 2 ^ R * v' = (y' : Rat) / (2 * M) := by rw [← ev]; grind
    have e2 : (-Y) / (2 * M) ≤ (y' : Rat) / (2 * M) := by
      refine le_rdiv (by grind) ?_
      have : -Y / (2 * M) * (2 * (M : Rat)) = -Y := fld3 (by grind)
      grind
    have e3 : 2 ^ R * δ ≤ 1 / (4 * M) := by
      refine le_rdiv (by grind) ?_
      grind
    have e4 : (-Y) / (2 * M) = -(Y / (2 * M)) := by grind
    rw [ha]; grind
  have hPa2 : 2 ^ R * a ≤ Y / (2 * M) + 1 / (4 * M) := by
    have e1 : 2 ^ R * v' = (y' : Rat) / (2 * M) := by rw [← ev]; grind
    have e2 : (y' : Rat) / (2 * M) ≤ Y / (2 * M) := by
      refine rdiv_le (by grind) ?_
      have : Y / (2 * M) * (2 * (M : Rat)) = Y := fld3 (by grind)
      grind
    have e3 : -(1 / (4 * M)) ≤ 2 ^ R * δ := by
      rcases rlt_or_le (2 ^ R * δ) (-(1 / (4 * (M : Rat)))) with g | g
      · have := Rat.mul_lt_mul_of_pos_right g (show (0 : Rat) < 4 * M by grind)
        have : 1 / (4 * (M : Rat)) * (4 * M) = 1 := fld3 (by grind)
        grind
      · exact g
    rw [ha]; grind
  have p1 := rabs_mul hPa1 hPa2 hη1 hη2
  have p2 := rabs_mul (a := 1 + v') (A := 1 + v') (b := 4 * (2 ^ R * M) * δ) (B := 1) (by grind) Rat.le_refl (by grind) f3
  have p3 : 2 ^ R * M * (δ * δ) ≤ 1 / (16 * M) := by
    refine le_rdiv (by grind) ?_
    have q1 := rabs_mul (a := 4 * (2 ^ R * M) * δ) (A := 1) (b := 4 * (2 ^ R * M) * δ) (B := 1) (by grind) f3 (by grind) f3
    have q2 := rsq_nonneg δ
    have q3 : 2 ^ R * M * (δ * δ) * (16 * M) * 2 ^ R = (4 * (2 ^ R * M) * δ) * (4 * (2 ^ R * M) * δ) := by grind
    have q4 : 0 ≤ 2 ^ R * M * (δ * δ) * (16 * M) := Rat.mul_nonneg (Rat.mul_nonneg (Rat.le_of_lt hm2) q2) (by grind)
    have q5 := Rat.mul_nonneg q4 (show (0 : Rat) ≤ 2 ^ R - 1 by grind)
    grind
  have p4 : 0 ≤ 2 ^ R * M * (δ * δ) := Rat.mul_nonneg (Rat.le_of_lt hm2) (rsq_nonneg δ)
  generalize hB : θ * (Y / (2 * M) + 1 / (4 * M)) + (1 + v') / 2 + 1 / (16 * (M : Rat)) = B
  have hN1 : -B ≤ 2 ^ R * M * ((1 + vr M R y) - (1 + v') * (1 + v')) := by
    rw [f4]
    have : 2 ^ R * M * (a * η - 2 * (1 + v') * δ + δ * δ) = 2 ^ R * a * (η * M) - (1 + v') * (4 * (2 ^ R * M) * δ) / 2 + 2 ^ R * M * (δ * δ) := by grind
    rw [this]; grind
  have hN2 : 2 ^ R * M * ((1 + vr M R y) - (1 + v') * (1 + v')) ≤ B := by
    rw [f4]
    have : 2 ^ R * M * (a * η - 2 * (1 + v') * δ + δ * δ) = 2 ^ R * a * (η * M) - (1 + v') * (4 * (2 ^ R * M) * δ) / 2 + 2 ^ R * M * (δ * δ) := by grind
    rw [this]; grind
  exact ⟨hN1, hN2⟩
theorem step_gen {x M y s : Int} {R : Nat} {A θ κ Y l : Rat} (hM : 0 < M) (h : IlInv x M R y A) (hs : IsSq (M * (M + divN y (2 ^ R))) s) (hκ : κ = 1 / 2 ∨ (R = 0 ∧ κ = 0))
    (hθ : (s : Rat) / M + κ ≤ θ * (1 + (s : Rat) / M)) (hY1 : -Y ≤ (divN (M * y * 2) (M + s) : Rat)) (hY2 : (divN (M * y * 2) (M + s) : Rat) ≤ Y)
    (hv' : 0 < 1 + vr M (R + 1) (divN (M * y * 2) (M + s))) (hl : 0 < l) (l1 : l ≤ 1 + vr M R y) (l2 : l ≤ (1 + vr M (R + 1) (divN (M * y * 2) (M + s))) * (1 + vr M (R + 1) (divN (M * y * 2) (M + s)))) :
    IlInv x M (R + 1) (divN (M * y * 2) (M + s)) (A + (θ * (Y / (2 * M) + 1 / (4 * M)) + (1 + vr M (R + 1) (divN (M * y * 2) (M + s))) / 2 + 1 / (16 * M)) / (l * M)) := by
  obtain ⟨hN1, hN2⟩ := step_N hM hs hκ hθ hY1 hY2 hv'
  have hm : (0 : Rat) < M := by exact_mod_cast hM
  have hP := c2pos R
  have hm2 : 0 < (2 : Rat) ^ R * M := Rat.mul_pos hP hm
  generalize divN (M * y * 2) (M + s) = y' at *
  generalize hB : θ * (Y / (2 * M) + 1 / (4 * M)) + (1 + vr M (R + 1) y') / 2 + 1 / (16 * (M : Rat)) = B at *
  have hB0 : 0 ≤ B := by grind
  have st := IlInv.step (n := B / (2 ^ R * M)) h hv' hl (le_rdiv hm2 (by grind)) l1 l2 (by
      rcases rlt_or_le (1 + vr M R y - (1 + vr M (R + 1) y') * (1 + vr M (R + 1) y')) (-(B / (2 ^ R * M))) with g | g
      · have := Rat.mul_lt_mul_of_pos_right g hm2
        have : B / (2 ^ R * M) * (2 ^ R * M) = B := fld3 hm2
        grind
      · exact g) (le_rdiv hm2 (by grind))
  have e9 : 2 ^ R * (B / (2 ^ R * M) / l) = B / (l * M) := by
    have : (2 : Rat) ^ R ≠ 0 := by grind
    have : (M : Rat) ≠ 0 := by grind
    have : l ≠ 0 := by grind
    grind
  rw [e9] at st
  exact st
end Mine

end
section
namespace Mine
open PySem.W
theorem tays_two {p : Nat} (hp : 3 ≤ p) : 2 ≤ tays p := by unfold tays; omega
/-- 10 M is no more than 256^T -/
theorem tays_big (p : Nat) : (10 : Nat) ^ (p + 1) ≤ 256 ^ tays p := by
  have h : 10 * (p + 1) ≤ 24 * tays p := by unfold tays; omega
  have h1 : (10 ^ (p + 1)) ^ 3 ≤ ((256 : Nat) ^ tays p) ^ 3 := by
    have a1 : ((10 : Nat) ^ (p + 1)) ^ 3 = 1000 ^ (p + 1) := by rw [← Nat.pow_mul, Nat.mul_comm, Nat.pow_mul]
    have a2 : (1000 : Nat) ^ (p + 1) ≤ 1024 ^ (p + 1) := Nat.pow_le_pow_left (by decide) _
    have a3 : (1024 : Nat) ^ (p + 1) = 2 ^ (10 * (p + 1)) := by rw [Nat.pow_mul]
    have a4 : (2 : Nat) ^ (10 * (p + 1)) ≤ 2 ^ (24 * tays p) := Nat.pow_le_pow_right (by decide) h
    have a5 : (2 : Nat) ^ (24 * tays p) = (256 ^ tays p) ^ 3 := by
      rw [show (256 : Nat) = 2 ^ 8 from rfl, ← Nat.pow_mul, ← Nat.pow_mul]; congr 1; omega
    omega
  rcases Nat.lt_or_ge (256 ^ tays p) (10 ^ (p + 1)) with g | g
  · exfalso
    have := Nat.pow_lt_pow_left g (show 3 ≠ 0 by decide)
    omega
  · exact g
theorem rpow_le {a b : Rat} (h0 : 0 ≤ a) (h : a ≤ b) : ∀ n : Nat, a ^ n ≤ b ^ n ∧ 0 ≤ a ^ n
  | 0 => by rw [Rat.pow_zero, Rat.pow_zero]; grind
  | n + 1 => by
    obtain ⟨h1, h2⟩ := rpow_le h0 h n
    rw [Rat.pow_succ, Rat.pow_succ]
    have k1 := Rat.mul_nonneg (show 0 ≤ b ^ n - a ^ n by grind) (show 0 ≤ b by grind)
    have k2 := Rat.mul_nonneg h2 (show 0 ≤ b - a by grind)
    have k3 := Rat.mul_nonneg h2 h0
    constructor <;> grind
/-- what is cut off the series -/
theorem trunc_err {p R : Nat} {M y : Int} {Y : Rat} (hp : 3 ≤ p) (hM : M = 10 ^ p) (hY1 : -Y ≤ (y : Rat)) (hY2 : (y : Rat) ≤ Y) {u : Rat} (hu0 : 0 ≤ u) (hu : u * (2 ^ R * M) ≤ Y) (hu2 : u ≤ 1 / 256) :
    2 ^ R * M * (2 * u ^ (tays p + 1) / (tays p + 1)) ≤ 1 / 15 * (Y / M) := by
  have hT := tays_two hp
  have hb := tays_big p
  have hM0 : 0 < M := by rw [hM]; exact Int.pow_pos (by decide)
  have hm : (0 : Rat) < M := by exact_mod_cast hM0
  have hTq : (2 : Rat) ≤ tays p := by exact_mod_cast hT
  have hY0 : 0 ≤ Y := by grind
  have h1 := (rpow_le hu0 hu2 (tays p)).1
  have h0 := (rpow_le hu0 hu2 (tays p)).2
  have hbq : (10 : Rat) * M ≤ 256 ^ tays p := by
    have : ((10 ^ (p + 1) : Nat) : Rat) ≤ ((256 ^ tays p : Nat) : Rat) := by exact_mod_cast hb
    have e1 : ((10 ^ (p + 1) : Nat) : Rat) = 10 * M := by
      rw [hM, Rat.intCast_pow, show (((10 : Int)) : Rat) = 10 from rfl]
      push_cast
      rw [Rat.pow_succ]; grind
    have e2 : ((256 ^ tays p : Nat) : Rat) = 256 ^ tays p := by push_cast; rfl
    grind
  have e3 : (1 / 256 : Rat) ^ tays p * 256 ^ tays p = 1 := by
    rw [← rmul_pow, show (1 / 256 : Rat) * 256 = 1 by grind, one_rpow]
  have h2 : (1 / 256 : Rat) ^ tays p * (10 * M) ≤ 1 := by
    have := Rat.mul_le_mul_of_nonneg_left hbq (show (0 : Rat) ≤ (1 / 256) ^ tays p from Rat.le_of_lt (rpow_pos (by grind) _))
    grind
  have h3 : u ^ tays p * (10 * M) ≤ 1 := by
    have := Rat.mul_nonneg (show 0 ≤ (1 / 256 : Rat) ^ tays p - u ^ tays p by grind) (show (0 : Rat) ≤ 10 * M by grind)
    grind
  rw [Rat.pow_succ]
  have hn : 0 < (tays p : Rat) + 1 := by grind
  have e4 : 2 ^ R * M * (2 * (u ^ tays p * u) / (tays p + 1)) = 2 * (u * (2 ^ R * M)) * u ^ tays p / (tays p + 1) := by grind
  rw [e4]
  refine rdiv_le hn ?_
  have k1 := Rat.mul_nonneg (show 0 ≤ Y - u * (2 ^ R * M) by grind) h0
  have e5 : Y / M * M = Y := fld3 hm
  have hYM : 0 ≤ Y / M := le_rdiv hm (by grind)
  have k2 := Rat.mul_nonneg hYM (show 0 ≤ 1 - u ^ tays p * (10 * M) by grind)
  have k3 := Rat.mul_nonneg hYM (show 0 ≤ (tays p : Rat) + 1 - 3 by grind)
  generalize u ^ tays p = U at *
  generalize u * (2 ^ R * M) = W at *
  generalize Y / (M : Rat) = Z at *
  have e6 : Y * U = Z * (U * M) := by rw [← e5]; grind
  grind
theorem fin_lo {D Z κ A m P S t : Rat} (te : D - P * m * S ≤ 1 / 2 + (51 / 100 + 13 / 25 * κ) * Z) (tr : P * m * t ≤ 1 / 15 * Z) : D - (1 / 2 + (173 / 300 + 13 / 25 * κ) * Z + A * m) ≤ (P * (S - t) - A) * m := by
  have e : (P * (S - t) - A) * m = P * m * S - P * m * t - A * m := by grind
  rw [e]; grind
theorem fin_hi {D Z κ A m P S t : Rat} (te : -(1 / 2 + (51 / 100 + 13 / 25 * κ) * Z) ≤ D - P * m * S) (tr : P * m * t ≤ 1 / 15 * Z) : (P * (S + t) + A) * m ≤ D + (1 / 2 + (173 / 300 + 13 / 25 * κ) * Z + A * m) := by
  have e : (P * (S + t) + A) * m = P * m * S + P * m * t + A * m := by grind
  rw [e]; grind
/-- the answer of _ilog against the logarithm -/
theorem il_final {p R : Nat} {x M y : Int} {A Y κ : Rat} (hp : 3 ≤ p) (hM : M = 10 ^ p) (h : IlInv x M R y A) (hc : 256 * (y.natAbs : Int) < M * 2 ^ R)
    (hκ : κ = 1 / 2 ∨ (R = 0 ∧ κ = 0)) (hY1 : -Y ≤ (y : Rat)) (hY2 : (y : Rat) ≤ Y) :
    Lg (((ilTail p M R y : Rat) - (1 / 2 + (173 / 300 + 13 / 25 * κ) * (Y / M) + A * M)) / M) ((x : Rat) / M) ∧
    Ug (((ilTail p M R y : Rat) + (1 / 2 + (173 / 300 + 13 / 25 * κ) * (Y / M) + A * M)) / M) ((x : Rat) / M) := by
  have hM0 : 0 < M := by rw [hM]; exact Int.pow_pos (by decide)
  have hMk : 1000 ≤ M := by
    rw [hM]
    obtain ⟨q, rfl⟩ : ∃ q, p = 3 + q := ⟨p - 3, by omega⟩
    rw [Int.pow_add]
    have : (0 : Int) < 10 ^ q := Int.pow_pos (by decide)
    have : (10 : Int) ^ 3 = 1000 := by decide
    omega
  have hm : (0 : Rat) < M := by exact_mod_cast hM0
  have hP := c2pos R
  have hPm := Rat.mul_pos hP hm
  have hvy := vr_eq (R := R) (y := y) hM0
  generalize hv : vr M R y = v at *
  have hcq : 256 * (y : Rat) < M * 2 ^ R ∧ -(M * 2 ^ R) < 256 * (y : Rat) := by
    have c1 : 256 * y < M * 2 ^ R := by omega
    have c2 : -(M * 2 ^ R) < 256 * y := by omega
    have d1 := Rat.intCast_lt_intCast.mpr c1
    have d2 := Rat.intCast_lt_intCast.mpr c2
    have e1 : ((256 * y : Int) : Rat) = 256 * (y : Rat) := by rw [Rat.intCast_mul]; rfl
    have e2 : ((M * 2 ^ R : Int) : Rat) = M * 2 ^ R := by rw [Rat.intCast_mul, cast_two_pow]
    have e3 : ((-(M * 2 ^ R) : Int) : Rat) = -(M * 2 ^ R) := by rw [Rat.intCast_neg, e2]
    rw [e1, e2] at d1
    rw [e1, e3] at d2
    exact ⟨d1, d2⟩
  have hv2 : v ≤ 1 / 256 := by
    rcases rlt_or_le (1 / 256) v with g | g
    · have := Rat.mul_lt_mul_of_pos_right g hPm
      grind
    · exact g
  have hv1 : -(1 / 256) ≤ v := by
    rcases rlt_or_le v (-(1 / 256)) with g | g
    · have := Rat.mul_lt_mul_of_pos_right g hPm
      grind
    · exact g
  have hys : -κ ≤ (divN y (2 ^ R) : Rat) - v * M ∧ (divN y (2 ^ R) : Rat) - v * M ≤ κ := by
    have e : v * M = (y : Rat) / 2 ^ R := by rw [← hvy]; have : (2 : Rat) ^ R ≠ 0 := by grind
                                             grind
    rw [e]
    rcases hκ with hk | ⟨h0, hk⟩
    · have := divN_rat y (b := 2 ^ R) (Int.pow_pos (by decide))
      rw [cast_two_pow] at this
      rw [hk]
      constructor <;> grind
    · subst h0 hk
      rw [show (2 : Int) ^ 0 = 1 from rfl, divN_one, Rat.pow_zero]
      constructor <;> grind
  have hκ0 : 0 ≤ κ ∧ κ ≤ 1 / 2 := by rcases hκ with h | ⟨_, h⟩ <;> rw [h] <;> constructor <;> grind
  have te := tail_err (ys := divN y (2 ^ R)) (R := R) hMk (tays_two hp) hv1 hv2 hvy hκ0.1 hκ0.2 hys.1 hys.2 hY1 hY2
  have eT : ilTail p M R y = divN (horn M (divN y (2 ^ R)) (divN M (tays p)) (downKs ((tays p : Int) - 1) (tays p - 1)) * y) M := rfl
  rw [← eT] at te
  -- the series
  have ser : ∃ u : Rat, 0 ≤ u ∧ u ≤ 1 / 256 ∧ u * (2 ^ R * M) ≤ Y ∧ Lg (lgS v (tays p) - 2 * u ^ (tays p + 1) / (tays p + 1)) (1 + v) ∧ Ug (lgS v (tays p) + 2 * u ^ (tays p + 1) / (tays p + 1)) (1 + v) := by
    rcases rlt_or_le v 0 with g | g
    · have a := tay_lo (s := -1) (u := -v) (Or.inr rfl) (by grind) (by grind) (tays p)
      have b := tay_hi (s := -1) (u := -v) (Or.inr rfl) (by grind) (by grind) (tays p)
      rw [show (-1 : Rat) * -v = v by grind] at a b
      exact ⟨-v, by grind, by grind, by grind, a, b⟩
    · have a := tay_lo (s := 1) (u := v) (Or.inl rfl) g (by grind) (tays p)
      have b := tay_hi (s := 1) (u := v) (Or.inl rfl) g (by grind) (tays p)
      rw [show (1 : Rat) * v = v by grind] at a b
      exact ⟨v, by grind, by grind, by grind, a, b⟩
  obtain ⟨u, u0, u1, u2, uL, uU⟩ := ser
  have tr := trunc_err (R := R) hp hM hY1 hY2 u0 u2 u1
  have kL := h.lo (r := lgS v (tays p) - 2 * u ^ (tays p + 1) / (tays p + 1)) (by rw [hv]; exact uL)
  have kU := h.hi (r := lgS v (tays p) + 2 * u ^ (tays p + 1) / (tays p + 1)) (by rw [hv]; exact uU)
  generalize (ilTail p M R y : Rat) = D at *
  generalize 2 * u ^ (tays p + 1) / ((tays p : Rat) + 1) = t at *
  generalize lgS v (tays p) = S at *
  generalize hZ : Y / (M : Rat) = Z at *
  constructor
  · exact kL.mono (rdiv_le hm (fin_lo te.2 tr)) Rat.le_refl
  · exact kU.mono (le_rdiv hm (fin_hi te.1 tr)) Rat.le_refl
end Mine

end
section
namespace Mine
theorem sq_ge_M {M r s : Int} (hM : 0 < M) (hr : 0 ≤ r) (hs : IsSq (M * (M + r)) s) : M ≤ s := by
  rcases Int.lt_or_le s M with h | h
  · exfalso
    have h0 := hs.1
    have h1 : s * (s + 1) ≤ (M - 1) * M := Int.mul_le_mul (by omega) (by omega) (by omega) (by omega)
    have h2 : 0 ≤ M * r := Int.mul_nonneg (by omega) hr
    have h3 := hs.2.2
    have e1 : M * (M + r) = M * M + M * r := by grind
    have e2 : s * (s + 1) = s * s + s := by grind
    have e3 : (M - 1) * M = M * M - M := by grind
    omega
  · exact h
theorem two_pow_ge (R : Nat) : (1 : Rat) ≤ 2 ^ R := by
  induction R with
  | zero => rw [Rat.pow_zero]; grind
  | succ R ih => rw [Rat.pow_succ]; grind
end Mine
end
section
namespace Mine
/-! bounds of the exponential: Ug r q says q ≤ exp r, Lg r q says exp r ≤ q -/
/-- r^k / k! -/
def et (r : Rat) : Nat → Rat
  | 0 => 1
  | k + 1 => et r k * r / (k + 1)
/-- the sum of the first -/
def eP (r : Rat) : Nat → Rat
  | 0 => 1
  | k + 1 => eP r k + et r (k + 1)
theorem nat1_pos (k : Nat) : (0 : Rat) < (k : Rat) + 1 := by
  have : (0 : Rat) ≤ k := Rat.natCast_nonneg
  grind
theorem et_succ (r : Rat) (k : Nat) : et r (k + 1) * ((k : Rat) + 1) = et r k * r := by
  rw [et]; exact fld3 (nat1_pos k)
theorem et_nonneg {r : Rat} (h : 0 ≤ r) : ∀ k, 0 ≤ et r k
  | 0 => by rw [et]; grind
  | k + 1 => by
    rw [et]
    exact le_rdiv (nat1_pos k) (by have := Rat.mul_nonneg (et_nonneg h k) h; grind)
theorem eP_one {r : Rat} (h : 0 ≤ r) : ∀ k, 1 ≤ eP r k
  | 0 => by rw [eP]; grind
  | k + 1 => by
    rw [eP]
    have := eP_one h k
    have := et_nonneg h (k + 1)
    grind
theorem rle_of_mul {a b c : Rat} (hc : 0 < c) (h : a * c ≤ b * c) : a ≤ b := by
  rcases rlt_or_le b a with g | g
  · have := Rat.mul_lt_mul_of_pos_right g hc
    grind
  · exact g
theorem et_diff {x y : Rat} (h0 : 0 ≤ x) (h : x ≤ y) : ∀ k, et x k * (y - x) ≤ et y (k + 1) - et x (k + 1) ∧ et y (k + 1) - et x (k + 1) ≤ et y k * (y - x)
  | 0 => by
    simp only [et]
    push_cast
    constructor <;> grind
  | k + 1 => by
    obtain ⟨a, b⟩ := et_diff h0 h k
    have hx := et_nonneg h0 k
    have hy := et_nonneg (show 0 ≤ y by grind) k
    have ex := et_succ x k
    have ey := et_succ y k
    have ex2 := et_succ x (k + 1)
    have ey2 := et_succ y (k + 1)
    have c2 : (((k + 1 : Nat) : Rat) + 1) = (k : Rat) + 2 := by push_cast; grind
    rw [c2] at ex2 ey2
    have hk2 : (0 : Rat) < (k : Rat) + 2 := by have := nat1_pos k; grind
    generalize et x (k + 1) = A at *
    generalize et y (k + 1) = B at *
    generalize et x k = A0 at *
    generalize et y k = B0 at *
    generalize et x (k + 1 + 1) = A2 at *
    generalize et y (k + 1 + 1) = B2 at *
    have d0 : 0 ≤ y - x := by grind
    have k1 := Rat.mul_nonneg h0 (show 0 ≤ B0 * (y - x) - (B - A) by grind)
    have k2 := Rat.mul_nonneg (Rat.mul_nonneg d0 d0) hy
    have k3 := Rat.mul_nonneg (show 0 ≤ y by grind) (show 0 ≤ (B - A) - A0 * (y - x) by grind)
    have k4 := Rat.mul_nonneg (Rat.mul_nonneg d0 d0) hx
    constructor
    · refine rle_of_mul hk2 ?_
      have e1 : (B2 - A2) * ((k : Rat) + 2) = B * y - A * x := by grind
      rw [e1]
      have e2 : A * (y - x) * ((k : Rat) + 2) = A * (y - x) + (y - x) * (A * ((k : Rat) + 1)) := by grind
      rw [e2, ex]
      grind
    · refine rle_of_mul hk2 ?_
      have e1 : (B2 - A2) * ((k : Rat) + 2) = B * y - A * x := by grind
      rw [e1]
      have e2 : B * (y - x) * ((k : Rat) + 2) = B * (y - x) + (y - x) * (B * ((k : Rat) + 1)) := by grind
      rw [e2, ey]
      grind
theorem eP_diff {x y : Rat} (h0 : 0 ≤ x) (h : x ≤ y) : ∀ k, eP x k * (y - x) ≤ eP y (k + 1) - eP x (k + 1) ∧ eP y (k + 1) - eP x (k + 1) ≤ eP y k * (y - x)
  | 0 => by
    simp only [et, eP]
    push_cast
    constructor <;> grind
  | k + 1 => by
    obtain ⟨a, b⟩ := eP_diff h0 h k
    obtain ⟨c, d⟩ := et_diff h0 h (k + 1)
    have e1 : eP y (k + 1 + 1) = eP y (k + 1) + et y (k + 1 + 1) := rfl
    have e2 : eP x (k + 1 + 1) = eP x (k + 1) + et x (k + 1 + 1) := rfl
    have e3 : eP y (k + 1) = eP y k + et y (k + 1) := rfl
    have e4 : eP x (k + 1) = eP x k + et x (k + 1) := rfl
    rw [e1, e2]
    constructor
    · rw [e4] at a ⊢; grind
    · rw [e3] at b ⊢; grind
theorem et_half {y : Rat} (h0 : 0 ≤ y) (h1 : 2 * y ≤ 1) (k : Nat) : 2 * et y (k + 1) ≤ et y k := by
  have e := et_succ y k
  have a := et_nonneg h0 k
  have b := et_nonneg h0 (k + 1)
  have hk : (0 : Rat) ≤ k := Rat.natCast_nonneg
  have k1 := Rat.mul_nonneg a (show 0 ≤ 1 - 2 * y by grind)
  have k2 := Rat.mul_nonneg b hk
  grind
theorem eP_two {y : Rat} (h0 : 0 ≤ y) (h1 : 2 * y ≤ 1) : ∀ k, eP y k + et y k ≤ 2
  | 0 => by simp only [eP, et]; grind
  | k + 1 => by
    have := eP_two h0 h1 k
    have := et_half h0 h1 k
    rw [eP]; grind
theorem eP_zero : ∀ k, eP 0 k = 1
  | 0 => rfl
  | k + 1 => by rw [eP, eP_zero k, et]; grind
/-- the sum is no more than exp -/
theorem exp_lo {r : Rat} (h0 : 0 ≤ r) (h1 : 2 * r ≤ 1) (T : Nat) : Ug r (eP r (T + 1)) := by
  have key := Ug.along (F := fun x => x) (G := fun x => eP x (T + 1)) (a := 0) (b := r) (C := 2) h0 (by grind)
    (by intro x hx hx2; have := eP_one hx (T + 1); grind) (by
      intro x y hx hxy hy
      have d := (eP_diff hx hxy T).2
      have o := eP_one hx (T + 1)
      have hy0 : 0 ≤ y := by grind
      have t := eP_two hy0 (by grind) (T + 1)
      have e3 : eP y (T + 1) = eP y T + et y (T + 1) := rfl
      have n1 := et_nonneg hy0 (T + 1)
      have hd : 0 ≤ y - x := by grind
      show eP y (T + 1) / eP x (T + 1) - 1 ≤ y - x + 2 * ((y - x) * (y - x))
      have : eP y (T + 1) / eP x (T + 1) ≤ 1 + (y - x) + 2 * ((y - x) * (y - x)) := by
        refine rdiv_le (by grind) ?_
        generalize eP y (T + 1) = B at *
        generalize eP x (T + 1) = A at *
        generalize eP y T = B0 at *
        have k1 := Rat.mul_nonneg (show 0 ≤ B - B0 by grind) hd
        have k2 := Rat.mul_nonneg (show 0 ≤ 2 - B by grind) hd
        -- B - A ≤ B d, B - A ≤ 2 d
        have k3 := Rat.mul_nonneg (show 0 ≤ 2 * (y - x) - (B - A) by grind) hd
        have k4 := Rat.mul_nonneg (Rat.mul_nonneg hd hd) (show 0 ≤ A - 1 by grind)
        grind
      grind)
  refine key.mono (by grind) ?_
  show eP r (T + 1) ≤ eP r (T + 1) / eP 0 (T + 1)
  rw [eP_zero]; grind
/-- and exp is no more than the sum and twice the next -/
theorem exp_hi {r : Rat} (h0 : 0 ≤ r) (h1 : 2 * r ≤ 1) (T : Nat) : Lg r (eP r (T + 1) + 2 * et r (T + 2)) := by
  have key := Lg.along (F := fun x => x) (G := fun x => eP x (T + 1) + 2 * et x (T + 2)) (a := 0) (b := r) (C := 4) h0 (by grind)
    (by intro x hx hx2; have := eP_one hx (T + 1); have := et_nonneg hx (T + 2); grind) (by
      intro x y hx hxy hy
      have d := eP_diff hx hxy T
      have d2 := et_diff hx hxy (T + 1)
      have hy0 : 0 ≤ y := by grind
      have o := eP_one hy0 (T + 1)
      have t := eP_two hy0 (by grind) (T + 1)
      have t0 := eP_two hy0 (by grind) T
      have hh := et_half hx (by grind) (T + 1)
      have e3 : eP x (T + 1) = eP x T + et x (T + 1) := rfl
      have n1 := et_nonneg hy0 (T + 2)
      have n0 := et_nonneg hx (T + 2)
      have n2 := et_nonneg hy0 (T + 1)
      have n3 := et_nonneg hy0 T
      have n4 := eP_one hy0 T
      have hd : 0 ≤ y - x := by grind
      show y - x ≤ 1 - (eP x (T + 1) + 2 * et x (T + 2)) / (eP y (T + 1) + 2 * et y (T + 2)) + 4 * ((y - x) * (y - x))
      have : (eP x (T + 1) + 2 * et x (T + 2)) / (eP y (T + 1) + 2 * et y (T + 2)) ≤ 1 - (y - x) + 4 * ((y - x) * (y - x)) := by
        refine rdiv_le (by grind) ?_
        have g1 : (eP x (T + 1) + 2 * et x (T + 2)) * (y - x) ≤ (eP y (T + 1) + 2 * et y (T + 2)) - (eP x (T + 1) + 2 * et x (T + 2)) := by
          have k1 := Rat.mul_nonneg (show 0 ≤ et x (T + 1) - 2 * et x (T + 2) by grind) hd
          have d1 := d.1
          have d3 := d2.1
          rw [show eP x T = eP x (T + 1) - et x (T + 1) by grind] at d1
          clear e3 d d2
          generalize eP x (T + 1) = a1 at *
          generalize eP y (T + 1) = a2 at *
          generalize et x (T + 1) = a3 at *
          generalize et x (T + 2) = a4 at *
          generalize et y (T + 2) = a5 at *
          grind
        have g2 : (eP y (T + 1) + 2 * et y (T + 2)) - (eP x (T + 1) + 2 * et x (T + 2)) ≤ 4 * (y - x) := by
          have k1 := Rat.mul_nonneg (show 0 ≤ 2 - eP y T by grind) hd
          have k2 := Rat.mul_nonneg (show 0 ≤ 1 - et y (T + 1) by grind) hd
          grind
        have g3 : 1 ≤ eP y (T + 1) + 2 * et y (T + 2) := by grind
        generalize eP y (T + 1) + 2 * et y (T + 2) = B at *
        generalize eP x (T + 1) + 2 * et x (T + 2) = A at *
        have k3 := Rat.mul_nonneg (show 0 ≤ 4 * (y - x) - (B - A) by grind) hd
        have k4 := Rat.mul_nonneg (Rat.mul_nonneg hd hd) (show 0 ≤ B - 1 by grind)
        grind
      grind)
  refine key.mono (by grind) ?_
  show (eP r (T + 1) + 2 * et r (T + 2)) / (eP 0 (T + 1) + 2 * et 0 (T + 2)) ≤ _
  rw [eP_zero, show et 0 (T + 2) = 0 by rw [et]; grind]
  grind
/-- the ideal Taylor loop -/
def uE (r : Rat) (T : Nat) : Nat → Rat
  | 0 => r / T
  | i + 1 => r / ((T - 1 - i : Nat) : Rat) * (1 + uE r T i)
theorem uE_eP (r : Rat) (T : Nat) : ∀ i : Nat, i + 1 ≤ T → eP r T - eP r (T - 1 - i) = et r (T - 1 - i) * uE r T i
  | 0, h => by
    obtain ⟨S, rfl⟩ : ∃ S, T = S + 1 := ⟨T - 1, by omega⟩
    simp only [uE, Nat.sub_zero, Nat.add_sub_cancel, eP, et]
    push_cast
    grind
  | i + 1, h => by
    have ih := uE_eP r T i (by omega)
    obtain ⟨S, hS⟩ : ∃ S, T - 1 - i = S + 1 := ⟨T - 1 - i - 1, by omega⟩
    have e1 : T - 1 - (i + 1) = S := by omega
    rw [hS] at ih
    rw [e1]
    simp only [uE, hS]
    have e2 : eP r (S + 1) = eP r S + et r (S + 1) := rfl
    have e3 : et r (S + 1) = et r S * r / (S + 1) := rfl
    rw [e2, e3] at ih
    push_cast
    have hS0 := nat1_pos S
    have : (S : Rat) + 1 ≠ 0 := by grind
    grind
theorem uE_one (r : Rat) {T : Nat} (hT : 1 ≤ T) : 1 + uE r T (T - 1) = eP r T := by
  have := uE_eP r T (T - 1) (by omega)
  rw [show T - 1 - (T - 1) = 0 by omega] at this
  simp only [eP, et] at this
  grind
/-- the terms are small -/
theorem et_small {r : Rat} (h0 : 0 ≤ r) (h1 : r ≤ 1 / 256) : ∀ k : Nat, 6 * et r (k + 3) ≤ r * (1 / 256) ^ (k + 2)
  | 0 => by
    simp only [et, Rat.pow_succ, Rat.pow_zero]
    push_cast
    have k1 := Rat.mul_nonneg h0 (show 0 ≤ 1 / 256 - r by grind)
    have k2 := Rat.mul_nonneg k1 (show 0 ≤ 1 / 256 + r by grind)
    grind
  | k + 1 => by
    have ih := et_small h0 h1 k
    have e := et_succ r (k + 3)
    have a := et_nonneg h0 (k + 3)
    have b := et_nonneg h0 (k + 3 + 1)
    have hk : (0 : Rat) ≤ ((k + 3 : Nat) : Rat) := Rat.natCast_nonneg
    have k1 := Rat.mul_nonneg a (show 0 ≤ 1 / 256 - r by grind)
    have k2 := Rat.mul_nonneg b hk
    rw [show k + 1 + 3 = k + 3 + 1 by omega, show k + 1 + 2 = k + 2 + 1 by omega, Rat.pow_succ]
    generalize (1 / 256 : Rat) ^ (k + 2) = P at *
    grind
end Mine

end
section
namespace Mine
open PySem.W
/-! reductions from one up to ten -/
theorem sqB0 {M y s : Rat} (hM : 1000 ≤ M) (hs0 : 0 < s) (hy : y ≤ 9 * M) (h1 : s * s - s ≤ M * (M + y)) : s ≤ 317 / 100 * M := by
  rcases rlt_or_le (317 / 100 * M) s with g | g
  · exfalso
    have a := Rat.mul_nonneg (show 0 ≤ s - 317 / 100 * M by grind) (show 0 ≤ s + 317 / 100 * M - 1 by grind)
    have b := Rat.mul_nonneg (show 0 ≤ M by grind) (show 0 ≤ 9 * M - y by grind)
    have c := Rat.mul_nonneg (show 0 ≤ M by grind) (show 0 ≤ M - 1000 by grind)
    grind
  · exact g
theorem sqB1 {M y s r : Rat} (hM : 1000 ≤ M) (hs0 : 0 < s) (hy : y ≤ 87 / 20 * M) (hr : r ≤ y / 2 + 1 / 2) (h1 : s * s - s ≤ M * (M + r)) : s ≤ 179 / 100 * M := by
  rcases rlt_or_le (179 / 100 * M) s with g | g
  · exfalso
    have a := Rat.mul_nonneg (show 0 ≤ s - 179 / 100 * M by grind) (show 0 ≤ s + 179 / 100 * M - 1 by grind)
    have b := Rat.mul_nonneg (show 0 ≤ M by grind) (show 0 ≤ 87 / 40 * M + 1 / 2 - r by grind)
    have c := Rat.mul_nonneg (show 0 ≤ M by grind) (show 0 ≤ M - 1000 by grind)
    grind
  · exact g
theorem yB0 {M y s d : Rat} (hM : 1000 ≤ M) (hs0 : M ≤ s) (hs : s ≤ 317 / 100 * M) (h2 : M * (M + y) ≤ s * s + s) (hd : d ≤ M * y * 2 / (M + s) + 1 / 2) : d ≤ 87 / 20 * M := by
  have : M * y * 2 / (M + s) ≤ 2 * (s - M) + 2 := rdiv_le (by grind) (by grind)
  grind
theorem yB1 {M y s d r : Rat} (hM : 1000 ≤ M) (hs0 : M ≤ s) (hs : s ≤ 179 / 100 * M) (hr : y / 2 - 1 / 2 ≤ r) (h2 : M * (M + r) ≤ s * s + s) (hd : d ≤ M * y * 2 / (M + s) + 1 / 2) : d ≤ 16 / 5 * M := by
  have b := Rat.mul_nonneg (show 0 ≤ M by grind) (show 0 ≤ r - (y / 2 - 1 / 2) by grind)
  have : M * y * 2 / (M + s) ≤ 4 * (s - M) + 4 := rdiv_le (by grind) (by grind)
  grind
theorem half_facts {a b : Rat} (h : -(1 / 2) ≤ a - b ∧ a - b ≤ 1 / 2) : b - 1 / 2 ≤ a ∧ a ≤ b + 1 / 2 := by
  constructor <;> grind
/-- one reduction, from a bound c of y' / M -/
theorem stepB {x M y s : Int} {R : Nat} {A c : Rat} (hM : 1000 ≤ M) (h : IlInv x M R y A) (hy : 0 ≤ y) (hs : IsSq (M * (M + divN y (2 ^ R))) s)
    (hc : ((divN (M * y * 2) (M + s) : Int) : Rat) ≤ c * M) (hy' : 0 ≤ divN (M * y * 2) (M + s)) :
    ∃ A', IlInv x M (R + 1) (divN (M * y * 2) (M + s)) A' ∧ A' * M ≤ A * M + (c / 2 + 1 / 2 + c / 2 * (1 / 2 ^ (R + 1)) + 1 / 1000) := by
  have hM0 : 0 < M := by omega
  have hm := cast_k hM
  have hm0 : (0 : Rat) < M := by grind
  have hs0 : (0 : Rat) < s := by exact_mod_cast hs.1
  have hw : 0 < (s : Rat) / M := rdiv_pos hs0 hm0
  have vpos : ∀ (R : Nat) (z : Int), 0 ≤ z → 0 ≤ vr M R z := by
    intro R z hz
    have hzq : (0 : Rat) ≤ z := by exact_mod_cast hz
    unfold vr
    exact le_rdiv (Rat.mul_pos (c2pos R) hm0) (by grind)
  have v0 := vpos R y hy
  have v0' := vpos (R + 1) _ hy'
  have yq0 : (0 : Rat) ≤ ((divN (M * y * 2) (M + s) : Int) : Rat) := by exact_mod_cast hy'
  have g := step_gen (θ := 1) (κ := 1 / 2) (Y := c * M) (l := 1) hM0 h hs (Or.inl rfl) (by grind) (by grind) hc (by grind) (by grind) (by grind) (by
    have := rsq_nonneg (vr M (R + 1) (divN (M * y * 2) (M + s)))
    grind)
  refine ⟨_, g, ?_⟩
  have ev := vr_eq (R := R + 1) (y := divN (M * y * 2) (M + s)) hM0
  have hP := c2pos (R + 1)
  have vle : vr M (R + 1) (divN (M * y * 2) (M + s)) ≤ c * (1 / 2 ^ (R + 1)) := by
    refine rle_of_mul (Rat.mul_pos hP hm0) ?_
    rw [ev]
    have : c * (1 / 2 ^ (R + 1)) * (2 ^ (R + 1) * (M : Rat)) = c * M := by
      have : (2 : Rat) ^ (R + 1) ≠ 0 := by grind
      grind
    rw [this]; exact hc
  have mi : 1 / (M : Rat) ≤ 1 / 1000 := rdiv_le hm0 (by grind)
  have mi0 : 0 < (1 : Rat) / M := rdiv_pos (by grind) hm0
  have e1 : (A + (1 * (c * M / (2 * M) + 1 / (4 * M)) + (1 + vr M (R + 1) (divN (M * y * 2) (M + s))) / 2 + 1 / (16 * (M : Rat))) / (1 * M)) * M = A * M + (c / 2 + 1 / 4 * (1 / M) + (1 + vr M (R + 1) (divN (M * y * 2) (M + s))) / 2 + 1 / 16 * (1 / M)) := by
    generalize vr M (R + 1) (divN (M * y * 2) (M + s)) = V
    have : (M : Rat) ≠ 0 := by grind
    grind
  rw [e1]
  generalize vr M (R + 1) (divN (M * y * 2) (M + s)) = V at *
  generalize 1 / (2 : Rat) ^ (R + 1) = t at *
  generalize (1 : Rat) / M = i at *
  grind
theorem pow10_le {M y2 : Int} {R : Nat} (hM : 0 < M) (h : M * 2 ^ R ≤ y2) (hy : y2 < 1024 * M) : R ≤ 9 := by
  rcases Nat.lt_or_ge 9 R with g | g
  · exfalso
    obtain ⟨k, rfl⟩ : ∃ k, R = 10 + k := ⟨R - 10, by omega⟩
    rw [Int.pow_add] at h
    have : (0 : Int) < 2 ^ k := Int.pow_pos (by decide)
    have h1 : M * 1024 ≤ M * (2 ^ 10 * 2 ^ k) := Int.mul_le_mul_of_nonneg_left (by
      have : (2 : Int) ^ 10 = 1024 := by decide
      omega) (by omega)
    omega
  · exact g
theorem half_pow {R : Nat} (h : 2 ≤ R) : 1 / (2 : Rat) ^ (R + 1) ≤ 1 / 8 := by
  obtain ⟨k, rfl⟩ : ∃ k, R = 2 + k := ⟨R - 2, by omega⟩
  have hk := two_pow_ge k
  have e : (2 : Rat) ^ (2 + k + 1) = 8 * 2 ^ k := by rw [Rat.pow_succ, rpow_add, show (2 : Rat) ^ 2 = 4 by decide +kernel]; grind
  rw [e]
  exact rdiv_le (by grind) (by grind)
def aB : Nat → Rat
  | 0 => 0
  | 1 => 19 / 5
  | R => 5 / 2 * R + 3 / 2
/-- the chain from one up to ten -/
theorem chainB {x M : Int} (hM : 1000 ≤ M) (hx : M ≤ x) (hx2 : x ≤ 10 * M) {R : Nat} {y : Int} (h : RedTo x M R y) :
    0 ≤ y ∧ y ≤ 9 * M ∧ (1 ≤ R → (y : Rat) ≤ 87 / 20 * M) ∧ (2 ≤ R → (y : Rat) ≤ 16 / 5 * M) ∧ R ≤ 10 ∧ ∃ A, IlInv x M R y A ∧ A * M ≤ aB R := by
  have hm := cast_k hM
  have hm0 : (0 : Rat) < M := by grind
  induction h with
  | zero =>
    refine ⟨by omega, by omega, by omega, by omega, by omega, 0, IlInv.zero (by omega) (by omega), ?_⟩
    unfold aB
    grind
  | @succ R y s hr hc hs ih =>
    obtain ⟨y0, y9, yb1, yb2, hR10, A, iA, bA⟩ := ih
    have hPi : (0 : Int) < 2 ^ R := Int.pow_pos (by decide)
    have hr0 : 0 ≤ divN y (2 ^ R) := le_divN hPi (by omega)
    have hsM := sq_ge_M (by omega) hr0 hs
    have y'0 : 0 ≤ divN (M * y * 2) (M + s) := le_divN (by omega) (by
      have := Int.mul_nonneg (show 0 ≤ M by omega) y0
      omega)
    have y'1 : divN (M * y * 2) (M + s) ≤ y := divN_le (by omega) (by
      have h1 := Int.mul_le_mul_of_nonneg_left hsM y0
      have e1 : y * (M + s) = y * M + y * s := by grind
      have e2 : M * y * 2 = y * M + y * M := by grind
      omega)
    have y'1q : ((divN (M * y * 2) (M + s) : Int) : Rat) ≤ y := by exact_mod_cast y'1
    have hs0 : (0 : Rat) < s := by exact_mod_cast hs.1
    have hsMq : (M : Rat) ≤ s := by exact_mod_cast hsM
    have d1 := divN_rat (M * y * 2) (b := M + s) (by omega)
    have eM : (((M * y * 2 : Int) : Rat)) = M * y * 2 := by push_cast; rfl
    have eS : (((M + s : Int) : Rat)) = M + s := by push_cast; rfl
    rw [eM, eS] at d1
    have q1 : (s : Rat) * s - s ≤ M * (M + divN y (2 ^ R)) := by
      have := hs.2.1
      have h : s * s - s ≤ M * (M + divN y (2 ^ R)) := by omega
      exact_mod_cast h
    have q2 : (M : Rat) * (M + divN y (2 ^ R)) ≤ (s : Rat) * s + s := by exact_mod_cast hs.2.2
    have y9q : (y : Rat) ≤ 9 * M := by
      have := Rat.intCast_le_intCast.mpr y9
      rw [Rat.intCast_mul] at this
      exact this
    have dr := divN_rat y (b := 2 ^ R) hPi
    rw [cast_two_pow] at dr
    -- the first, the second, the others
    have hcase : R = 0 ∨ R = 1 ∨ 2 ≤ R := by omega
    rcases hcase with e | e | e
    · subst e
      rw [show (2 : Int) ^ 0 = 1 from rfl, divN_one] at q1 q2
      have sb := sqB0 hm hs0 y9q q1
      have yb := yB0 (d := ((divN (M * y * 2) (M + s) : Int) : Rat)) hm hsMq sb q2 (half_facts d1).2
      obtain ⟨A', i', b'⟩ := stepB hM iA y0 hs yb y'0
      refine ⟨y'0, by omega, fun _ => yb, by omega, by omega, A', i', ?_⟩
      unfold aB at bA ⊢
      simp only [Rat.pow_succ, Rat.pow_zero] at b'
      grind
    · subst e
      rw [show (2 : Rat) ^ 1 = 2 by decide +kernel] at dr
      have sb := sqB1 (r := (divN y (2 ^ 1) : Rat)) hm hs0 (yb1 (by omega)) (half_facts dr).2 q1
      have yb := yB1 (r := (divN y (2 ^ 1) : Rat)) (d := ((divN (M * y * 2) (M + s) : Int) : Rat)) hm hsMq sb (half_facts dr).1 q2 (half_facts d1).2
      obtain ⟨A', i', b'⟩ := stepB hM iA y0 hs yb y'0
      refine ⟨y'0, by omega, fun _ => by grind, fun _ => yb, by omega, A', i', ?_⟩
      unfold aB at bA ⊢
      simp only [Rat.pow_succ, Rat.pow_zero] at b'
      push_cast
      grind
    · have yb : ((divN (M * y * 2) (M + s) : Int) : Rat) ≤ 16 / 5 * M := by have := yb2 e; grind
      obtain ⟨A', i', b'⟩ := stepB hM iA y0 hs yb y'0
      have y3 : 256 * (y.natAbs : Int) < 1024 * M := by
        have h1 := yb2 e
        have h2 : ((5 * y : Int) : Rat) ≤ ((16 * M : Int) : Rat) := by
          rw [Rat.intCast_mul, Rat.intCast_mul, show (((5 : Int)) : Rat) = 5 from rfl, show (((16 : Int)) : Rat) = 16 from rfl]
          grind
        have h3 := Rat.intCast_le_intCast.mp h2
        omega
      have hR9 := pow10_le (by omega) hc y3
      refine ⟨y'0, by omega, fun _ => by grind, fun _ => yb, by omega, A', i', ?_⟩
      have hp := half_pow e
      obtain ⟨k, rfl⟩ : ∃ k, R = k + 2 := ⟨R - 2, by omega⟩
      unfold aB at bA ⊢
      push_cast at bA ⊢
      generalize 1 / (2 : Rat) ^ (k + 2 + 1) = t at *
      grind
theorem redOk_B {x M : Int} (hM : 1000 ≤ M) (hx : M ≤ x) (hx2 : x ≤ 10 * M) : RedOk x M := by
  intro R y h
  have c := chainB hM hx hx2 h
  have hPi : (0 : Int) < 2 ^ R := Int.pow_pos (by decide)
  have hr0 : 0 ≤ divN y (2 ^ R) := le_divN hPi (by omega)
  exact ⟨by omega, by omega, by omega, by omega⟩
/-- the answer of _ilog from one up to ten -/
theorem ilog_B {p : Nat} {x M D : Int} (hp : 3 ≤ p) (hM : M = 10 ^ p) (hMk : 1000 ≤ M) (hx : M ≤ x) (hx2 : x ≤ 10 * M) (hD : IsIlog p x M D) :
    Lg (((D : Rat) - 31) / M) ((x : Rat) / M) ∧ Ug (((D : Rat) + 31) / M) ((x : Rat) / M) := by
  obtain ⟨R, y, hr, hc, rfl⟩ := hD
  obtain ⟨y0, y9, yb1, yb2, hR10, A, iA, bA⟩ := chainB hMk hx hx2 hr
  have hm := cast_k hMk
  have hm0 : (0 : Rat) < M := by grind
  have y0q : (0 : Rat) ≤ y := by exact_mod_cast y0
  have y4 : (y : Rat) ≤ 4 * M := by
    have h1 : y ≤ 4 * M := by
      have h2 : (2 : Int) ^ R ≤ 1024 := by
        obtain ⟨k, hk⟩ := Nat.le.dest hR10
        have : (2 : Int) ^ 10 = 2 ^ R * 2 ^ k := by rw [← Int.pow_add, hk]
        have h3 : (0 : Int) < 2 ^ R := Int.pow_pos (by decide)
        have h4 : (0 : Int) < 2 ^ k := Int.pow_pos (by decide)
        have := Int.mul_le_mul_of_nonneg_left (show (1 : Int) ≤ 2 ^ k by omega) (Int.le_of_lt h3)
        have e : (2 : Int) ^ 10 = 1024 := by decide
        omega
      have := Int.mul_le_mul_of_nonneg_left h2 (show 0 ≤ M by omega)
      omega
    have := Rat.intCast_le_intCast.mpr h1
    rw [Rat.intCast_mul] at this
    exact this
  have f := il_final (κ := 1 / 2) (Y := 4 * (M : Rat)) hp hM iA hc (Or.inl rfl) (by grind) y4
  have aM : A * M ≤ 53 / 2 := by
    have : aB R ≤ 53 / 2 := by
      have hR : R = 0 ∨ R = 1 ∨ 2 ≤ R := by omega
      rcases hR with e | e | e
      · subst e; unfold aB; grind
      · subst e; unfold aB; grind
      · obtain ⟨k, rfl⟩ : ∃ k, R = k + 2 := ⟨R - 2, by omega⟩
        unfold aB
        have : ((k + 2 : Nat) : Rat) ≤ ((10 : Nat) : Rat) := by exact_mod_cast hR10
        push_cast at this ⊢
        grind
    grind
  have e4 : 4 * (M : Rat) / M = 4 := by have : (M : Rat) ≠ 0 := by grind
                                        grind
  rw [e4] at f
  generalize (ilTail p M R y : Rat) = D at *
  constructor
  · refine f.1.mono (rdiv_le hm0 ?_) Rat.le_refl
    rw [fld3 hm0]; grind
  · refine f.2.mono (rdiv_le hm0 ?_) Rat.le_refl
    rw [fld3 hm0]; grind
end Mine

end
section
namespace Mine
theorem ieT_nonneg {Ms x : Int} {T : Nat} (hx : 0 ≤ x) (hM : 256 * x < Ms) (hT : 0 < T) : ∀ i, i + 1 ≤ T → 0 ≤ ieT Ms x T i ∧ ieT Ms x T i ≤ 2 * x
  | 0, _ => (ieT_start (Ms := Ms) hx hT).2
  | i + 1, h => by
    have ih := ieT_nonneg hx hM hT i (by omega)
    exact ieT_bound hx hM (by omega) ih.1 ih.2
theorem uE_bound {r : Rat} (h0 : 0 ≤ r) (h1 : r ≤ 1 / 256) {T : Nat} (hT : 1 ≤ T) : ∀ i, i + 1 ≤ T → 0 ≤ uE r T i ∧ uE r T i ≤ 1 / 128
  | 0, _ => by
    rw [uE]
    have hq : (1 : Rat) ≤ T := by exact_mod_cast hT
    refine ⟨le_rdiv (by grind) (by grind), rdiv_le (by grind) (by grind)⟩
  | i + 1, h => by
    obtain ⟨a, b⟩ := uE_bound h0 h1 hT i (by omega)
    rw [uE]
    have hq : (1 : Rat) ≤ ((T - 1 - i : Nat) : Rat) := by exact_mod_cast (show 1 ≤ T - 1 - i by omega)
    generalize ((T - 1 - i : Nat) : Rat) = k at *
    have c1 : 0 ≤ r / k := le_rdiv (by grind) (by grind)
    have c2 : r / k ≤ 1 / 256 := rdiv_le (by grind) (by grind)
    have k1 := Rat.mul_nonneg c1 (show 0 ≤ 1 + uE r T i by grind)
    have k2 := Rat.mul_nonneg (show 0 ≤ 1 / 256 - r / k by grind) (show 0 ≤ 1 + uE r T i by grind)
    exact ⟨by grind, by grind⟩
theorem fldT {r Ms y k : Rat} (hM : 0 < Ms) (hk : 0 < k) : r * Ms * (Ms + y) / (Ms * k) = r / k * (Ms + y) := by
  have h1 : Ms ≠ 0 := by grind
  have h2 : k ≠ 0 := by grind
  grind
/-- the Taylor loop of ints against the ideal one -/
theorem ieT_err {Ms x : Int} {r : Rat} {T : Nat} (hT : 1 ≤ T) (hMs : 0 < Ms) (h0 : 0 ≤ r) (hr : r * Ms = x) (hr2 : r ≤ 1 / 256) : ∀ i, i + 1 ≤ T →
    -(503 / 1000 : Rat) ≤ (ieT Ms x T i : Rat) - Ms * uE r T i ∧ (ieT Ms x T i : Rat) - Ms * uE r T i ≤ 503 / 1000
  | 0, _ => by
    have d := divN_rat x (b := (T : Int)) (by omega)
    rw [ieT, uE]
    have e : (Ms : Rat) * (r / (T : Rat)) = (x : Rat) / ((T : Int) : Rat) := by
      rw [Rat.intCast_natCast, ← hr]
      grind
    rw [e]
    constructor <;> grind
  | i + 1, h => by
    obtain ⟨a, b⟩ := ieT_err hT hMs h0 hr hr2 i (by omega)
    have k1 : (T : Int) - 1 - i = ((T - 1 - i : Nat) : Int) := by omega
    rw [ieT, uE, k1]
    have hk : (0 : Int) < ((T - 1 - i : Nat) : Int) := by omega
    have d := divN_rat (x * (Ms + ieT Ms x T i)) (b := Ms * ((T - 1 - i : Nat) : Int)) (Int.mul_pos hMs hk)
    have hm : (0 : Rat) < Ms := by exact_mod_cast hMs
    have hkq : (1 : Rat) ≤ ((T - 1 - i : Nat) : Rat) := by exact_mod_cast (show 1 ≤ T - 1 - i by omega)
    have e1 : ((x * (Ms + ieT Ms x T i) : Int) : Rat) = r * Ms * (Ms + ieT Ms x T i) := by rw [hr]; push_cast; rfl
    have e2 : ((Ms * ((T - 1 - i : Nat) : Int) : Int) : Rat) = Ms * ((T - 1 - i : Nat) : Rat) := by rw [Rat.intCast_mul, Rat.intCast_natCast]
    rw [e1, e2, fldT hm (by grind)] at d
    generalize (divN (x * (Ms + ieT Ms x T i)) (Ms * ((T - 1 - i : Nat) : Int)) : Rat) = D at *
    generalize ((T - 1 - i : Nat) : Rat) = k at *
    generalize (ieT Ms x T i : Rat) = y at *
    generalize uE r T i = u at *
    generalize (Ms : Rat) = m at *
    have c1 : 0 ≤ r / k := le_rdiv (by grind) (by grind)
    have c2 : r / k ≤ 1 / 256 := rdiv_le (by grind) (by grind)
    have p := rabs_mul (a := r / k) (A := 1 / 256) (by grind) c2 a b
    have e3 : r / k * (m + y) - m * (r / k * (1 + u)) = r / k * (y - m * u) := by grind
    generalize r / k = q at *
    constructor <;> grind
theorem pow_pos_q {M : Int} {R : Nat} (hM : 0 < M) : (0 : Rat) < M * 2 ^ R := by
  have hm : (0 : Rat) < M := by exact_mod_cast hM
  exact Rat.mul_pos hm (c2pos R)
theorem cast_M2 (M : Int) (R : Nat) : ((M * 2 ^ R : Int) : Rat) = M * 2 ^ R := by rw [Rat.intCast_mul, cast_two_pow]
theorem base_lo {y e N u G w : Rat} (hN : 0 < N) (a : y - N * u ≤ 503 / 1000) (hw : 0 ≤ w) (he : 503 / 1000 + w / 30 ≤ e) (u1 : 1 + u = G) : 1 + (y - e) / N ≤ G := by
  have h : (y - e) / N ≤ u := rdiv_le hN (by grind)
  grind
theorem base_hi {y e N u G w t r P X m : Rat} (hN : 0 < N) (hr : r * N = X) (exM : w * m = X) (a : -(503 / 1000) ≤ y - N * u) (hw : 0 ≤ w) (he : 503 / 1000 + w / 30 ≤ e) (u1 : 1 + u = G) (sm : 6 * t ≤ r * P) (h2 : P * (10 * m) ≤ 1) : G + 2 * t ≤ 1 + (y + e) / N := by
  have k1 := Rat.mul_nonneg (show 0 ≤ r * P - 6 * t by grind) (Rat.le_of_lt hN)
  have e6 : r * P * N = X * P := by rw [← hr]; grind
  have k2 := Rat.mul_nonneg hw (show 0 ≤ 1 - P * (10 * m) by grind)
  have e7 : X * P = w * (P * m) := by rw [← exM]; grind
  have h : u + 2 * t ≤ (y + e) / N := le_rdiv hN (by grind)
  grind
theorem base_up {y N u u0 r X : Rat} (hr : r * N = X) (hx : 0 ≤ X) (us : u = r * (1 + u0)) (ub : u0 ≤ 1 / 128) (a : y - N * u ≤ 503 / 1000) : y ≤ X * (129 / 128) + 503 / 1000 := by
  have k1 := Rat.mul_nonneg hx (show 0 ≤ 1 / 128 - u0 by grind)
  have e5 : N * u = X * (1 + u0) := by rw [us, ← hr]; grind
  grind
/-- what the Taylor loop tells -/
theorem ie_base {p R : Nat} {x M : Int} {e : Rat} (hp : 3 ≤ p) (hM : M = 10 ^ p) (hx : 0 ≤ x) (hR : 256 * x < M * 2 ^ R) (he : 503 / 1000 + (x : Rat) / (30 * M) ≤ e) :
    0 ≤ ieY p x M R ∧ (ieY p x M R : Rat) ≤ (x : Rat) * (129 / 128) + 503 / 1000 ∧
    Ug ((x : Rat) / (M * 2 ^ R)) (1 + ((ieY p x M R : Rat) - e) / (M * 2 ^ R)) ∧ Lg ((x : Rat) / (M * 2 ^ R)) (1 + ((ieY p x M R : Rat) + e) / (M * 2 ^ R)) := by
  have hM0 : 0 < M := by rw [hM]; exact Int.pow_pos (by decide)
  have hm : (0 : Rat) < M := by exact_mod_cast hM0
  have hMs : 0 < M * 2 ^ R := by omega
  have hN := pow_pos_q (R := R) hM0
  have hxq : (0 : Rat) ≤ x := by exact_mod_cast hx
  have hT := tays_two hp
  have hRq : 256 * (x : Rat) ≤ M * 2 ^ R := by
    have := Rat.intCast_le_intCast.mpr (Int.le_of_lt hR)
    rw [Rat.intCast_mul, cast_M2] at this
    exact this
  have h0 : 0 ≤ (x : Rat) / (M * 2 ^ R) := le_rdiv hN (by grind)
  have h1 : (x : Rat) / (M * 2 ^ R) ≤ 1 / 256 := rdiv_le hN (by grind)
  have hr : (x : Rat) / (M * 2 ^ R) * ((M * 2 ^ R : Int) : Rat) = x := by rw [cast_M2]; exact fld3 hN
  have nn := ieT_nonneg (Ms := M * 2 ^ R) (T := tays p) hx hR (by omega) (tays p - 1) (by omega)
  have er := ieT_err (Ms := M * 2 ^ R) (T := tays p) (by omega) hMs h0 hr h1 (tays p - 1) (by omega)
  have u1 := uE_one ((x : Rat) / (M * 2 ^ R)) (T := tays p) (by omega)
  have ub := uE_bound h0 h1 (T := tays p) (by omega) (tays p - 2) (by omega)
  have us : uE ((x : Rat) / (M * 2 ^ R)) (tays p) (tays p - 1) = (x : Rat) / (M * 2 ^ R) * (1 + uE ((x : Rat) / (M * 2 ^ R)) (tays p) (tays p - 2)) := by
    obtain ⟨S, hS⟩ : ∃ S, tays p = S + 2 := ⟨tays p - 2, by omega⟩
    rw [hS, show S + 2 - 1 = S + 1 by omega, show S + 2 - 2 = S by omega, uE, show S + 2 - 1 - S = 1 by omega]
    push_cast
    grind
  have lo := exp_lo h0 (by grind) (tays p - 1)
  have hi := exp_hi h0 (by grind) (tays p - 1)
  rw [show tays p - 1 + 1 = tays p by omega] at lo hi
  rw [show tays p - 1 + 2 = (tays p - 2) + 3 by omega] at hi
  have sm := et_small h0 h1 (tays p - 2)
  rw [show tays p - 2 + 2 = tays p by omega] at sm
  -- 256^T is no less than 10 M
  have hb := tays_big p
  have hbq : (10 : Rat) * M ≤ 256 ^ tays p := by
    have : ((10 ^ (p + 1) : Nat) : Rat) ≤ ((256 ^ tays p : Nat) : Rat) := by exact_mod_cast hb
    have e1 : ((10 ^ (p + 1) : Nat) : Rat) = 10 * M := by
      rw [hM, Rat.intCast_pow, show (((10 : Int)) : Rat) = 10 from rfl]
      push_cast
      rw [Rat.pow_succ]; grind
    have e2 : ((256 ^ tays p : Nat) : Rat) = 256 ^ tays p := by push_cast; rfl
    grind
  have e3 : (1 / 256 : Rat) ^ tays p * 256 ^ tays p = 1 := by
    rw [← rmul_pow, show (1 / 256 : Rat) * 256 = 1 by grind, one_rpow]
  have hPp : (0 : Rat) < (1 / 256) ^ tays p := rpow_pos (by grind) _
  have h2 : (1 / 256 : Rat) ^ tays p * (10 * M) ≤ 1 := by
    have := Rat.mul_le_mul_of_nonneg_left hbq (Rat.le_of_lt hPp)
    grind
  have eY : ieY p x M R = ieT (M * 2 ^ R) x (tays p) (tays p - 1) := rfl
  rw [← eY, cast_M2] at er
  rw [← eY] at nn
  rw [cast_M2] at hr
  have ex30 : (x : Rat) / (30 * M) = (x : Rat) / M / 30 := by have : (M : Rat) ≠ 0 := by grind
                                                              grind
  have exM : (x : Rat) / M * M = x := fld3 hm
  have exM0 : 0 ≤ (x : Rat) / M := le_rdiv hm (by grind)
  rw [ex30] at he
  exact ⟨nn.1, base_up hr hxq us ub.2 er.2, lo.mono Rat.le_refl (base_lo hN er.2 exM0 he u1), hi.mono Rat.le_refl (base_hi hN hr exM er.1 exM0 he u1 sm h2)⟩
theorem fldD {n y : Rat} (hn : 0 < n) : y * (y + 4 * n) / (4 * n) = y + y * y / (4 * n) := by
  have : n ≠ 0 := by grind
  grind
/-- one doubling -/
theorem dbl_step {n y : Int} {r e e' : Rat} (hn : 0 < n) (h0 : 0 ≤ y) (he : 0 ≤ e) (hl : Lg r (1 + ((y : Rat) + e) / (2 * n))) (hu : Ug r (1 + ((y : Rat) - e) / (2 * n))) (hpos : e < 2 * n)
    (he' : 1 / 2 + e * (1 + (2 * y + e) / (4 * n)) ≤ e') :
    Lg (2 * r) (1 + ((divN (y * (y + 4 * n)) (4 * n) : Rat) + e') / n) ∧ Ug (2 * r) (1 + ((divN (y * (y + 4 * n)) (4 * n) : Rat) - e') / n) := by
  have hnq : (0 : Rat) < n := by exact_mod_cast hn
  have hyq : (0 : Rat) ≤ y := by exact_mod_cast h0
  have d := divN_rat (y * (y + 4 * n)) (b := 4 * n) (by omega)
  have e1 : ((y * (y + 4 * n) : Int) : Rat) = y * (y + 4 * n) := by push_cast; rfl
  have e2 : ((4 * n : Int) : Rat) = 4 * n := by push_cast; rfl
  rw [e1, e2, fldD hnq] at d
  generalize (divN (y * (y + 4 * n)) (4 * n) : Rat) = D at *
  generalize (y : Rat) = z at *
  generalize (n : Rat) = m at *
  have m0 : m ≠ 0 := by grind
  have e3 : ∀ q : Rat, (1 + q / (2 * m)) * (1 + q / (2 * m)) = 1 + (q + q * q / (4 * m)) / m := by intro q; grind
  have pos : 0 < 1 + (z - e) / (2 * m) := by
    have : -1 < (z - e) / (2 * m) := by
      rcases rlt_or_le (-1) ((z - e) / (2 * m)) with g | g
      · exact g
      · have h5 := Rat.mul_le_mul_of_nonneg_right g (show (0 : Rat) ≤ 2 * m by grind)
        rw [fld3 (show (0 : Rat) < 2 * m by grind)] at h5
        grind
    grind
  have a := Lg.add hl hl
  have b := Ug.add pos hu hu
  rw [e3] at a b
  have e4 : (z + e) + (z + e) * (z + e) / (4 * m) = z + z * z / (4 * m) + e * (1 + (2 * z + e) / (4 * m)) := by grind
  have e5 : (z - e) + (z - e) * (z - e) / (4 * m) = z + z * z / (4 * m) - e * (1 + (2 * z - e) / (4 * m)) := by grind
  have e6 : e * (1 + (2 * z - e) / (4 * m)) ≤ e * (1 + (2 * z + e) / (4 * m)) := by
    have : (2 * z - e) / (4 * m) ≤ (2 * z + e) / (4 * m) := by
      refine rdiv_le (by grind) ?_
      rw [fld3 (show (0 : Rat) < 4 * m by grind)]; grind
    have := Rat.mul_nonneg he (show 0 ≤ (2 * z + e) / (4 * m) - (2 * z - e) / (4 * m) by grind)
    grind
  rw [e4] at a
  rw [e5] at b
  refine ⟨a.mono (by grind) ?_, b.mono (by grind) ?_⟩
  · have : (z + z * z / (4 * m) + e * (1 + (2 * z + e) / (4 * m))) / m ≤ (D + e') / m := by
      refine rdiv_le hnq ?_
      rw [fld3 hnq]; grind
    grind
  · have : (D - e') / m ≤ (z + z * z / (4 * m) - e * (1 + (2 * z - e) / (4 * m))) / m := by
      refine rdiv_le hnq ?_
      rw [fld3 hnq]; grind
    grind
end Mine

end
section
namespace Mine
/-- bounds of y / (M 2^L) and of its error, level by level -/
def zh : Nat → Rat
  | 0 => 9343247 / 1000000
  | 1 => 1108007 / 500000
  | 2 => 158651 / 200000
  | 3 => 169539 / 500000
  | 4 => 78579 / 500000
  | 5 => 37849 / 500000
  | 6 => 37151 / 1000000
  | 7 => 9201 / 500000
  | 8 => 9157 / 1000000
  | 9 => 4567 / 1000000
  | _ => 57 / 25000
def eh : Nat → Rat
  | 0 => 223167 / 5000
  | 1 => 34271 / 2500
  | 2 => 36809 / 5000
  | 3 => 5123 / 1000
  | 4 => 39947 / 10000
  | 5 => 16243 / 5000
  | 6 => 53 / 20
  | 7 => 21111 / 10000
  | 8 => 3991 / 2500
  | 9 => 5457 / 5000
  | _ => 59 / 100
theorem zh_step : ∀ L : Fin 10, 2 * zh (L + 1) + zh (L + 1) * zh (L + 1) + 1 / (2000 * 2 ^ (L : Nat)) ≤ zh L := by decide +kernel
theorem eh_step : ∀ L : Fin 10, 1 / 2 + eh (L + 1) * (1 + zh (L + 1) + eh (L + 1) / (4000 * 2 ^ (L : Nat))) ≤ eh L := by decide +kernel
theorem zh_base : ∀ L : Fin 10, (1 / 256 * (129 / 128) : Rat) + 503 / (1000000 * 2 ^ (L : Nat)) ≤ zh L := by decide +kernel
theorem zh_top : (231 / 102400 * (129 / 128) : Rat) + 503 / (1000000 * 2 ^ 10) ≤ zh 10 := by decide +kernel
theorem eh_base : ∀ L : Fin 11, (59 / 100 : Rat) ≤ eh L := by decide +kernel
theorem eh_small : ∀ L : Fin 11, eh L ≤ 45 := by decide +kernel
theorem zh_size : ∀ L : Fin 11, zh L * 2 ^ (L : Nat) ≤ 11 ∧ 0 ≤ zh L := by decide +kernel
theorem ge_k {M : Int} (hM : 1000 ≤ M) (L : Nat) : (1000 : Rat) * 2 ^ L ≤ M * 2 ^ L := by
  have := Rat.mul_nonneg (show (0 : Rat) ≤ M - 1000 by have := cast_k hM; grind) (Rat.le_of_lt (c2pos L))
  grind
theorem dbl_num {n P y z z' D : Rat} (hP : 0 < P) (hn : 1000 * P ≤ n) (hy : y ≤ z * (2 * n)) (y0 : 0 ≤ y) (hd : D ≤ y + y * y / (4 * n) + 1 / 2) (hz : 2 * z + z * z + 1 / (2000 * P) ≤ z') : D ≤ z' * n := by
  have hn0 : 0 < n := by grind
  have e1 : 1 / (2000 * P) * (2000 * P) = 1 := fld3 (by grind)
  have i0 : 0 < 1 / (2000 * P) := rdiv_pos (by grind) (by grind)
  have k1 := Rat.mul_nonneg (Rat.le_of_lt i0) (show 0 ≤ n - 1000 * P by grind)
  have k2 := Rat.mul_nonneg (show 0 ≤ z' - (2 * z + z * z + 1 / (2000 * P)) by grind) (Rat.le_of_lt hn0)
  have k3 : y * y / (4 * n) ≤ z * z * n := by
    refine rdiv_le (by grind) ?_
    have a := Rat.mul_nonneg (show 0 ≤ z * (2 * n) - y by grind) (show 0 ≤ z * (2 * n) + y by grind)
    grind
  generalize 1 / (2000 * P) = i at *
  grind
theorem dbl_num2 {n P y z e e' : Rat} (hP : 0 < P) (hn : 1000 * P ≤ n) (hy : y ≤ z * (2 * n)) (he0 : 0 ≤ e) (he : 1 / 2 + e * (1 + z + e / (4000 * P)) ≤ e') : 1 / 2 + e * (1 + (2 * y + e) / (4 * n)) ≤ e' := by
  have hn0 : 0 < n := by grind
  have k : (2 * y + e) / (4 * n) ≤ z + e / (4000 * P) := by
    refine rdiv_le (by grind) ?_
    have e1 : e / (4000 * P) * (4000 * P) = e := fld3 (by grind)
    have i0 : 0 ≤ e / (4000 * P) := le_rdiv (by grind) (by grind)
    have k1 := Rat.mul_nonneg i0 (show 0 ≤ n - 1000 * P by grind)
    grind
  have := Rat.mul_nonneg he0 (show 0 ≤ z + e / (4000 * P) - (2 * y + e) / (4 * n) by grind)
  grind
/-- the state at level L -/
def LevAt (x M : Int) (L : Nat) (y : Int) : Prop := 0 ≤ y ∧ (y : Rat) ≤ zh L * (M * 2 ^ L) ∧ Lg ((x : Rat) / (M * 2 ^ L)) (1 + ((y : Rat) + eh L) / (M * 2 ^ L)) ∧ Ug ((x : Rat) / (M * 2 ^ L)) (1 + ((y : Rat) - eh L) / (M * 2 ^ L))
theorem lev_step {x M y : Int} {L : Nat} (hM : 1000 ≤ M) (hL : L < 10) (h : LevAt x M (L + 1) y) : LevAt x M L (divN (y * (y + 4 * (M * 2 ^ L))) (4 * (M * 2 ^ L))) := by
  obtain ⟨y0, yz, hl, hu⟩ := h
  have hPi : (0 : Int) < 2 ^ L := Int.pow_pos (by decide)
  have hn : 0 < M * 2 ^ L := Int.mul_pos (by omega) hPi
  have hP := c2pos L
  have hk := ge_k hM L
  have hnq : (0 : Rat) < M * 2 ^ L := by grind
  have e1 : (M : Rat) * 2 ^ (L + 1) = 2 * (M * 2 ^ L) := by rw [Rat.pow_succ]; grind
  rw [e1] at yz hl hu
  have zs := zh_step ⟨L, hL⟩
  have es := eh_step ⟨L, hL⟩
  have eb := eh_base ⟨L + 1, by omega⟩
  have esm := eh_small ⟨L + 1, by omega⟩
  simp only [Fin.val_mk] at zs es eb esm
  have yq : (0 : Rat) ≤ y := by exact_mod_cast y0
  have hP1 := two_pow_ge L
  have d := divN_rat (y * (y + 4 * (M * 2 ^ L))) (b := 4 * (M * 2 ^ L)) (by omega)
  have c1 : ((y * (y + 4 * (M * 2 ^ L)) : Int) : Rat) = y * (y + 4 * (M * 2 ^ L)) := by rw [Rat.intCast_mul, Rat.intCast_add, Rat.intCast_mul, cast_M2]; rfl
  have c2 : ((4 * (M * 2 ^ L) : Int) : Rat) = 4 * (M * 2 ^ L) := by rw [Rat.intCast_mul, cast_M2]; rfl
  rw [c1, c2, fldD hnq] at d
  have st := dbl_step (n := M * 2 ^ L) (y := y) (r := (x : Rat) / (2 * (M * 2 ^ L))) (e := eh (L + 1)) (e' := eh L) hn y0 (by grind) (by rw [cast_M2]; exact hl) (by rw [cast_M2]; exact hu) (by rw [cast_M2]; grind) (by rw [cast_M2]; exact dbl_num2 hP hk yz (by grind) es)
  rw [cast_M2] at st
  have e2 : 2 * ((x : Rat) / (2 * (M * 2 ^ L))) = (x : Rat) / (M * 2 ^ L) := by
    generalize (M : Rat) * 2 ^ L = n at *
    have : n ≠ 0 := by grind
    grind
  rw [e2] at st
  refine ⟨le_divN (by omega) ?_, dbl_num hP hk yz yq (by grind) zs, st.1, st.2⟩
  rw [Int.zero_mul]
  exact Int.mul_nonneg y0 (by omega)
theorem lev_R {x M : Int} {R : Nat} (hM : 0 < M) (hx2 : 100 * x ≤ 231 * M) (hRR : R = 0 ∨ M * 2 ^ R ≤ 512 * x) : R ≤ 10 := by
  rcases hRR with h | h
  · omega
  · rcases Nat.lt_or_ge 10 R with g | g
    · exfalso
      obtain ⟨k, rfl⟩ : ∃ k, R = 11 + k := ⟨R - 11, by omega⟩
      rw [Int.pow_add] at h
      have : (0 : Int) < 2 ^ k := Int.pow_pos (by decide)
      have h1 : M * 2048 ≤ M * (2 ^ 11 * 2 ^ k) := Int.mul_le_mul_of_nonneg_left (by
        have : (2 : Int) ^ 11 = 2048 := by decide
        omega) (by omega)
      omega
    · exact g
theorem base_z {y X N z i c : Rat} (hb : y ≤ X * (129 / 128) + 503 / 1000) (hX : X ≤ c * N) (hz : c * (129 / 128) + i ≤ z) (hN : 0 ≤ N) (hi : 503 / 1000 ≤ i * N) : y ≤ z * N := by
  have := Rat.mul_nonneg (show 0 ≤ z - (c * (129 / 128) + i) by grind) hN
  grind
theorem lev_base {p R : Nat} {x M : Int} (hp : 3 ≤ p) (hM : M = 10 ^ p) (hx : 0 ≤ x) (hx2 : 100 * x ≤ 231 * M) (hR : 256 * x < M * 2 ^ R) (hRR : R = 0 ∨ M * 2 ^ R ≤ 512 * x) : LevAt x M R (ieY p x M R) := by
  have hMk : 1000 ≤ M := by
    rw [hM]
    obtain ⟨q, rfl⟩ : ∃ q, p = 3 + q := ⟨p - 3, by omega⟩
    rw [Int.pow_add]
    have : (0 : Int) < 10 ^ q := Int.pow_pos (by decide)
    have : (10 : Int) ^ 3 = 1000 := by decide
    omega
  have hR10 := lev_R (by omega) hx2 hRR
  have hm := cast_k hMk
  have hm0 : (0 : Rat) < M := by grind
  have hx2q : 100 * (x : Rat) ≤ 231 * M := by
    have := Rat.intCast_le_intCast.mpr hx2
    rw [Rat.intCast_mul, Rat.intCast_mul] at this
    exact this
  have hRq : 256 * (x : Rat) ≤ M * 2 ^ R := by
    have := Rat.intCast_le_intCast.mpr (Int.le_of_lt hR)
    rw [Rat.intCast_mul, cast_M2] at this
    exact this
  have eb := eh_base ⟨R, by omega⟩
  have x30 : (x : Rat) / (30 * M) ≤ 231 / 3000 := rdiv_le (by grind) (by grind)
  obtain ⟨a, b, c, d⟩ := ie_base (R := R) (e := eh R) hp hM hx hR (by grind)
  refine ⟨a, ?_, d, c⟩
  have hk := ge_k hMk R
  have hP := c2pos R
  have i0 : 0 < 503 / (1000000 * (2 : Rat) ^ R) := rdiv_pos (by grind) (by grind)
  have e1 : 503 / (1000000 * (2 : Rat) ^ R) * (1000000 * 2 ^ R) = 503 := fld3 (by grind)
  have k1 := Rat.mul_nonneg (Rat.le_of_lt i0) (show (0 : Rat) ≤ M * 2 ^ R - 1000 * 2 ^ R by grind)
  have hi : 503 / 1000 ≤ 503 / (1000000 * (2 : Rat) ^ R) * (M * 2 ^ R) := by grind
  have hN0 : (0 : Rat) ≤ M * 2 ^ R := by grind
  rcases Nat.lt_or_ge R 10 with g | g
  · exact base_z (c := 1 / 256) b (by grind) (zh_base ⟨R, g⟩) hN0 hi
  · obtain rfl : R = 10 := by omega
    have e10 : (2 : Rat) ^ 10 = 1024 := by decide +kernel
    exact base_z (c := 231 / 102400) b (by rw [e10]; grind) zh_top hN0 hi
/-- all levels -/
theorem lev_all {p R : Nat} {x M : Int} (hp : 3 ≤ p) (hM : M = 10 ^ p) (hMk : 1000 ≤ M) (hx : 0 ≤ x) (hx2 : 100 * x ≤ 231 * M) (hR : 256 * x < M * 2 ^ R) (hRR : R = 0 ∨ M * 2 ^ R ≤ 512 * x) : ∀ j, j ≤ R → LevAt x M (R - j) (ieD M (ieY p x M R) R j)
  | 0, _ => lev_base hp hM hx hx2 hR hRR
  | j + 1, h => by
    have ih := lev_all hp hM hMk hx hx2 hR hRR j (by omega)
    have hR10 := lev_R (show 0 < M by omega) hx2 hRR
    obtain ⟨L, hL⟩ : ∃ L, R - j = L + 1 := ⟨R - j - 1, by omega⟩
    rw [hL] at ih
    have st := lev_step hMk (by omega) ih
    have e1 : R - (j + 1) = L := by omega
    have e2 : M * 2 ^ (R + 1 - j) = 4 * (M * 2 ^ L) := by
      rw [show R + 1 - j = L + 2 by omega, Int.pow_add, show (2 : Int) ^ 2 = 4 by decide]; grind
    rw [e1, ieD, e2]
    exact st
theorem ie_ok {p : Nat} {x M : Int} (hp : 3 ≤ p) (hM : M = 10 ^ p) (hx : 0 ≤ x) (hx2 : 100 * x ≤ 231 * M) : IeOk p x M := by
  intro R hR hRR
  have hM0 : 0 < M := by rw [hM]; exact Int.pow_pos (by decide)
  have hR10 := lev_R hM0 hx2 hRR
  have hMk : 1000 ≤ M := by
    rw [hM]
    obtain ⟨q, rfl⟩ : ∃ q, p = 3 + q := ⟨p - 3, by omega⟩
    rw [Int.pow_add]
    have : (0 : Int) < 10 ^ q := Int.pow_pos (by decide)
    have : (10 : Int) ^ 3 = 1000 := by decide
    omega
  refine ⟨by omega, fun j hj => ?_⟩
  obtain ⟨a, b, _, _⟩ := lev_all hp hM hMk hx hx2 hR hRR j hj
  refine ⟨a, ?_⟩
  have z := (zh_size ⟨R - j, by omega⟩).1
  have hm : (0 : Rat) < M := by exact_mod_cast hM0
  have k := Rat.mul_nonneg (show (0 : Rat) ≤ 11 - zh (R - j) * 2 ^ (R - j) by grind) (Rat.le_of_lt hm)
  have h2 : (ieD M (ieY p x M R) R j : Rat) ≤ ((11 * M : Int) : Rat) := by
    rw [Rat.intCast_mul, show (((11 : Int)) : Rat) = 11 from rfl]
    grind
  have := Rat.intCast_le_intCast.mp h2
  omega
/-- the answer of _iexp against exp -/
theorem ie_final {p : Nat} {x M E : Int} (hp : 3 ≤ p) (hM : M = 10 ^ p) (hMk : 1000 ≤ M) (hx : 0 ≤ x) (hx2 : 100 * x ≤ 231 * M) (h : IsIexp p x M E) :
    M ≤ E ∧ (E : Rat) ≤ (1 + zh 0) * M ∧ Lg ((x : Rat) / M) (((E : Rat) + eh 0) / M) ∧ Ug ((x : Rat) / M) (((E : Rat) - eh 0) / M) := by
  obtain ⟨R, hR, hRR, rfl⟩ := h
  obtain ⟨a, b, c, d⟩ := lev_all hp hM hMk hx hx2 hR hRR R (Nat.le_refl R)
  rw [Nat.sub_self, Rat.pow_zero, Rat.mul_one] at b c d
  have hm := cast_k hMk
  have hm0 : (M : Rat) ≠ 0 := by grind
  generalize ieD M (ieY p x M R) R R = y at *
  have ec : ((M + y : Int) : Rat) = M + y := by push_cast; rfl
  rw [ec]
  have e1 : 1 + ((y : Rat) + eh 0) / M = ((M : Rat) + y + eh 0) / M := by grind
  have e2 : 1 + ((y : Rat) - eh 0) / M = ((M : Rat) + y - eh 0) / M := by grind
  rw [e1] at c
  rw [e2] at d
  exact ⟨by omega, by grind, c, d⟩
/-- and where x is small -/
theorem ie_small {p : Nat} {x M E : Int} (hp : 3 ≤ p) (hM : M = 10 ^ p) (hMk : 1000 ≤ M) (hx : 0 ≤ x) (hx2 : 256 * x < M) (h : IsIexp p x M E) :
    M ≤ E ∧ (E : Rat) ≤ M + x * (129 / 128) + 503 / 1000 ∧ Lg ((x : Rat) / M) (((E : Rat) + 51 / 100) / M) ∧ Ug ((x : Rat) / M) (((E : Rat) - 51 / 100) / M) := by
  obtain ⟨R, hR, hRR, rfl⟩ := h
  have hR0 : R = 0 := by
    rcases hRR with h | h
    · exact h
    · rcases Nat.eq_zero_or_pos R with g | g
      · exact g
      · exfalso
        obtain ⟨k, rfl⟩ : ∃ k, R = 1 + k := ⟨R - 1, by omega⟩
        rw [Int.pow_add] at h
        have : (0 : Int) < 2 ^ k := Int.pow_pos (by decide)
        have h1 : M * 2 ≤ M * (2 ^ 1 * 2 ^ k) := Int.mul_le_mul_of_nonneg_left (by
          have : (2 : Int) ^ 1 = 2 := by decide
          omega) (by omega)
        omega
  subst hR0
  have hm := cast_k hMk
  have hm0 : (M : Rat) ≠ 0 := by grind
  have hx2q : 256 * (x : Rat) ≤ M := by
    have := Rat.intCast_le_intCast.mpr (show 256 * x ≤ M by omega)
    rw [Rat.intCast_mul] at this
    exact this
  have x30 : (x : Rat) / (30 * M) ≤ 1 / 7680 := rdiv_le (by grind) (by grind)
  obtain ⟨a, b, c, d⟩ := ie_base (R := 0) (e := 51 / 100) hp hM hx hR (by grind)
  rw [Rat.pow_zero, Rat.mul_one] at c d
  have e0 : ieD M (ieY p x M 0) 0 0 = ieY p x M 0 := rfl
  rw [e0]
  generalize ieY p x M 0 = y at *
  have ec : ((M + y : Int) : Rat) = M + y := by push_cast; rfl
  rw [ec]
  have e1 : 1 + ((y : Rat) + 51 / 100) / M = ((M : Rat) + y + 51 / 100) / M := by grind
  have e2 : 1 + ((y : Rat) - 51 / 100) / M = ((M : Rat) + y - 51 / 100) / M := by grind
  rw [e1] at d
  rw [e2] at c
  exact ⟨by omega, by grind, d, c⟩
end Mine

end
section
namespace Mine
theorem fld100 {N : Rat} (hN : 0 < N) (z : Rat) : z / (100 * N) = z / 100 / N := by
  have : N ≠ 0 := by grind
  grind
/-- exp of a told logarithm comes back -/
theorem back_log {q N e B w : Rat} {D E : Int} (hq : 0 < q) (hN : 1000 ≤ N) (hB0 : 0 ≤ B) (hw : (50 + B) / 100 * (N + w) < w * N) (hw0 : 0 < w) (hw1 : w < 100)
    (dl : Lg (((D : Rat) - B) / (100 * N)) q) (du : Ug (((D : Rat) + B) / (100 * N)) q)
    (el : Lg ((divN D 100 : Rat) / N) (((E : Rat) + e) / N)) (eu : Ug ((divN D 100 : Rat) / N) (((E : Rat) - e) / N)) :
    (E : Rat) ≤ N * q + e + q * w ∧ N * q - e - q * w ≤ E := by
  have d := divN_rat D (b := 100) (by decide)
  rw [show (((100 : Int)) : Rat) = 100 from rfl] at d
  have hN0 : 0 < N := by grind
  generalize (divN D 100 : Rat) = t at *
  generalize (D : Rat) = D at *
  generalize (E : Rat) = E at *
  constructor
  · rcases rlt_or_le (N * q + e + q * w) E with g | g
    · exfalso
      have h1 : q * (1 + w / N) ≤ (E - e) / N := by
        refine le_rdiv hN0 ?_
        have e0 : q * (1 + w / N) * N = N * q + q * (w / N * N) := by grind
        rw [e0, fld3 hN0]
        clear dl du el eu
        grind
      have u := eu.mono Rat.le_refl h1
      have hwN : 0 < w / N := rdiv_pos hw0 hN0
      have b := Lg.basic (t := 1 / (1 + w / N)) (q := 1 + w / N) (rdiv_pos (by grind) (by grind)) (by
        have : 1 / (1 + w / N) * (1 + w / N) = 1 := fld3 (by grind)
        grind)
      have l := Lg.add dl b
      have k := l.le u
      have e1 : 1 - 1 / (1 + w / N) = w / (N + w) := by
        have h2 : N ≠ 0 := by grind
        have h3 : N + w ≠ 0 := by grind
        have h4 : 1 + w / N = (N + w) / N := by grind
        rw [h4]; grind
      rw [e1, fld100 hN0] at k
      have k2 : w / (N + w) ≤ (50 + B) / 100 / N := by
        have : t / N ≤ ((D + 50) / 100) / N := by
          refine rdiv_le hN0 ?_
          rw [fld3 hN0]; grind
        have e2 : ((D + 50) / 100) / N = (D - B) / 100 / N + (50 + B) / 100 / N := by grind
        grind
      have k3 := Rat.mul_le_mul_of_nonneg_right k2 (show 0 ≤ (N + w) * N from Rat.mul_nonneg (by grind) (by grind))
      have e3 : w / (N + w) * ((N + w) * N) = w * N := by
        have : N + w ≠ 0 := by grind
        grind
      have e4 : (50 + B) / 100 / N * ((N + w) * N) = (50 + B) / 100 * (N + w) := by
        have : N ≠ 0 := by grind
        grind
      grind
    · exact g
  · rcases rlt_or_le E (N * q - e - q * w) with g | g
    · exfalso
      have h1 : (E + e) / N ≤ q * (1 - w / N) := by
        refine rdiv_le hN0 ?_
        have e0 : q * (1 - w / N) * N = N * q - q * (w / N * N) := by grind
        rw [e0, fld3 hN0]
        clear dl du el eu
        grind
      have l := el.mono Rat.le_refl h1
      have hwN : w / N < 1 := by
        rcases rlt_or_le (w / N) 1 with g2 | g2
        · exact g2
        · have := Rat.mul_le_mul_of_nonneg_right g2 (Rat.le_of_lt hN0)
          rw [fld3 hN0] at this
          grind
      have b := Ug.basic (q := 1 - w / N) (by grind)
      have u := Ug.add (by grind) du b
      have k := l.le u
      rw [fld100 hN0] at k
      have k2 : w / N ≤ (50 + B) / 100 / N := by
        have : ((D - 50) / 100) / N ≤ t / N := by
          refine rdiv_le hN0 ?_
          rw [fld3 hN0]; grind
        have e2 : (D + B) / 100 / N = ((D - 50) / 100) / N + (50 + B) / 100 / N := by grind
        grind
      have k3 := Rat.mul_le_mul_of_nonneg_right k2 (Rat.le_of_lt hN0)
      rw [fld3 hN0, fld3 hN0] at k3
      have k4 := Rat.mul_nonneg (show 0 ≤ (50 + B) / 100 by grind) (Rat.le_of_lt hw0)
      have k5 := Rat.mul_nonneg (show 0 ≤ (50 + B) / 100 - w by grind) (Rat.le_of_lt hN0)
      grind
    · exact g
/-- the logarithm of a told exp comes back: E for exp (x / N), (E + f) / N told, the answer D to M -/
theorem back_exp {N M e f F B x D E : Rat} (hN : 1000 ≤ N) (hM : 0 < M) (he : 0 ≤ e) (heF : e + F ≤ 100) (hF1 : -F ≤ f) (hF2 : f ≤ F) (hE : N ≤ E)
    (el : Lg (x / N) ((E + e) / N)) (eu : Ug (x / N) ((E - e) / N))
    (dl : Lg ((D - B) / M) ((E + f) / N)) (du : Ug ((D + B) / M) ((E + f) / N)) :
    D ≤ M * (x / N) + B + M * ((e + F) / (N - 100)) ∧ M * (x / N) - B - M * ((e + F) / (N - 100)) ≤ D := by
  have hN0 : 0 < N := by grind
  have hN1 : 0 < N - 100 := by grind
  have hF0 : 0 ≤ F := by grind
  constructor
  · have hEe : 0 < E - e := by grind
    have ht : 0 ≤ (f + e) / (E - e) ∨ True := Or.inr trivial
    have e1 : (E + f) / N = (E - e) / N * (1 + (f + e) / (E - e)) := by
      have : N ≠ 0 := by grind
      have : E - e ≠ 0 := by grind
      grind
    have pos : 0 < 1 + (f + e) / (E - e) := by
      have : 1 + (f + e) / (E - e) = (E + f) / (E - e) := by
        have : E - e ≠ 0 := by grind
        grind
      rw [this]
      exact rdiv_pos (by grind) hEe
    have u := Ug.add pos eu (Ug.basic pos)
    rw [← e1] at u
    have k := dl.le u
    have k2 : (f + e) / (E - e) ≤ (e + F) / (N - 100) := by
      refine rdiv_le hEe ?_
      have h3 : (e + F) / (N - 100) * (N - 100) = e + F := fld3 hN1
      have h4 : 0 ≤ (e + F) / (N - 100) := le_rdiv hN1 (by grind)
      have h5 := Rat.mul_nonneg h4 (show 0 ≤ (E - e) - (N - 100) by grind)
      grind
    have k3 := Rat.mul_le_mul_of_nonneg_right k (Rat.le_of_lt hM)
    rw [fld3 hM] at k3
    have k4 := Rat.mul_nonneg (show 0 ≤ (e + F) / (N - 100) - (f + e) / (E - e) by grind) (Rat.le_of_lt hM)
    grind
  · have hEe : 0 < E + e := by grind
    have hEf : 0 < E + f := by grind
    have e1 : (E + f) / N = (E + e) / N * ((E + f) / (E + e)) := by
      have : N ≠ 0 := by grind
      have : E + e ≠ 0 := by grind
      grind
    have b := Lg.basic (t := (E + e) / (E + f)) (q := (E + f) / (E + e)) (rdiv_pos hEe hEf) (by
      rw [rdiv_mul hEe]
      have : (E + f) / (E + f) = 1 := by
        have : E + f ≠ 0 := by grind
        grind
      grind)
    have l := Lg.add el b
    rw [← e1] at l
    have k := l.le du
    have e2 : 1 - (E + e) / (E + f) = -((e - f) / (E + f)) := by
      have : E + f ≠ 0 := by grind
      grind
    rw [e2] at k
    have k2 : (e - f) / (E + f) ≤ (e + F) / (N - 100) := by
      refine rdiv_le hEf ?_
      have h3 : (e + F) / (N - 100) * (N - 100) = e + F := fld3 hN1
      have h4 : 0 ≤ (e + F) / (N - 100) := le_rdiv hN1 (by grind)
      have h5 := Rat.mul_nonneg h4 (show 0 ≤ (E + f) - (N - 100) by grind)
      grind
    have k3 := Rat.mul_le_mul_of_nonneg_right k (Rat.le_of_lt hM)
    rw [fld3 hM] at k3
    have k4 := Rat.mul_nonneg (show 0 ≤ (e + F) / (N - 100) - (e - f) / (E + f) by grind) (Rat.le_of_lt hM)
    grind
/-- log 10, from both sides, roughly -/
theorem log10_hi : Ug (2303 / 1000) 10 := by
  have a := tay_hi (s := 1) (u := 1 / 2) (Or.inl rfl) (by grind) (by grind) 20
  have b := tay_hi (s := 1) (u := 77 / 243) (Or.inl rfl) (by grind) (by grind) 20
  refine (Ug.add (by grind) (Ug.pow (by grind) a 5) b).mono (by decide +kernel) (by decide +kernel)
theorem log10_lo : Lg (2301 / 1000) (9995 / 1000) := by
  have a := tay_lo (s := 1) (u := 1 / 2) (Or.inl rfl) (by grind) (by grind) 20
  have b := tay_lo (s := 1) (u := 316 / 1000) (Or.inl rfl) (by grind) (by grind) 20
  refine (Lg.add (Lg.pow a 5) b).mono (by decide +kernel) (by decide +kernel)
end Mine

end
section
namespace Mine
theorem pow_k (k : Nat) : (1000 : Int) ≤ 10 ^ (k + 3) := by
  rw [Int.pow_add]
  have : (0 : Int) < 10 ^ k := Int.pow_pos (by decide)
  have : (10 : Int) ^ 3 = 1000 := by decide
  omega
theorem pow_3 (k : Nat) : (10 : Int) ^ (k + 3) = 1000 * 10 ^ k := by
  rw [Int.pow_add, show (10 : Int) ^ 3 = 1000 by decide]; omega
theorem pow_4 (k : Nat) : (10 : Int) ^ (k + 4) = 10000 * 10 ^ k := by
  rw [Int.pow_add, show (10 : Int) ^ 4 = 10000 by decide]; omega
theorem pow_5 (k : Nat) : (10 : Int) ^ (k + 5) = 100 * 10 ^ (k + 3) := by
  rw [show k + 5 = (k + 3) + 2 by omega, Int.pow_add (n := 2), show (10 : Int) ^ 2 = 100 by decide]; omega
theorem ten_k (k : Nat) : (0 : Int) < 10 ^ k := Int.pow_pos (by decide)
/-- the logarithm of x / N, told in hundredths -/
theorem dl_lg {k : Nat} {x D : Int} (h1 : 10 ^ (k + 3) ≤ x) (h2 : x ≤ 10 * 10 ^ (k + 3)) (hD : IsIlog (k + 5) (x * 100) (10 ^ (k + 5)) D) :
    Lg (((D : Rat) - 31) / (100 * ((10 ^ (k + 3) : Int) : Rat))) ((x : Rat) / ((10 ^ (k + 3) : Int) : Rat)) ∧ Ug (((D : Rat) + 31) / (100 * ((10 ^ (k + 3) : Int) : Rat))) ((x : Rat) / ((10 ^ (k + 3) : Int) : Rat)) := by
  have hk := pow_k k
  have e5 := pow_5 k
  have h := ilog_B (p := k + 5) (by omega) rfl (by omega) (by omega) (by omega) hD
  have c1 : (((10 : Int) ^ (k + 5) : Int) : Rat) = 100 * ((10 ^ (k + 3) : Int) : Rat) := by rw [e5, Rat.intCast_mul]; rfl
  have c2 : ((x * 100 : Int) : Rat) = x * 100 := by rw [Rat.intCast_mul]; rfl
  have hq : (0 : Rat) < ((10 ^ (k + 3) : Int) : Rat) := by exact_mod_cast (show (0 : Int) < 10 ^ (k + 3) by omega)
  rw [c1, c2] at h
  generalize (((10 : Int) ^ (k + 3) : Int) : Rat) = N at *
  have e : (x : Rat) * 100 / (100 * N) = (x : Rat) / N := by
    have : N ≠ 0 := by grind
    grind
  rw [e] at h
  exact h
/-- what is told lies from 0 to log 10 -/
theorem dl_told {k : Nat} {x D : Int} (h1 : 10 ^ (k + 3) ≤ x) (h2 : x ≤ 10 * 10 ^ (k + 3)) (hD : IsIlog (k + 5) (x * 100) (10 ^ (k + 5)) D) :
    0 ≤ divN D 100 ∧ 100 * divN D 100 ≤ 231 * 10 ^ (k + 3) ∧ divN D 100 ≤ x - 10 ^ (k + 3) := by
  have hk := pow_k k
  obtain ⟨l, u⟩ := dl_lg h1 h2 hD
  have db := divN_bounds D (b := 100) (by decide)
  have hNq := cast_k hk
  have hq : (0 : Rat) < ((10 ^ (k + 3) : Int) : Rat) := by grind
  have h1q : ((10 ^ (k + 3) : Int) : Rat) ≤ x := by exact_mod_cast h1
  have h2q : (x : Rat) ≤ 10 * ((10 ^ (k + 3) : Int) : Rat) := by
    have := Rat.intCast_le_intCast.mpr h2
    rw [Rat.intCast_mul] at this
    exact this
  have a := (Lg.zero.mono Rat.le_refl (show 1 ≤ (x : Rat) / ((10 ^ (k + 3) : Int) : Rat) from le_rdiv hq (by grind))).le u
  have b := l.le (log10_hi.mono Rat.le_refl (show (x : Rat) / ((10 ^ (k + 3) : Int) : Rat) ≤ 10 from rdiv_le hq (by grind)))
  have c := l.le (Ug.basic (q := (x : Rat) / ((10 ^ (k + 3) : Int) : Rat)) (rdiv_pos (by grind) hq))
  have hq100 : (0 : Rat) < 100 * ((10 ^ (k + 3) : Int) : Rat) := by grind
  have a2 : -31 ≤ D := by
    have h := Rat.mul_le_mul_of_nonneg_right a (Rat.le_of_lt hq100)
    rw [fld3 hq100] at h
    have : ((-31 : Int) : Rat) ≤ (D : Rat) := by rw [show (((-31 : Int)) : Rat) = -31 from rfl]; grind
    exact Rat.intCast_le_intCast.mp this
  have b2 : 10 * D ≤ 310 + 2303 * 10 ^ (k + 3) := by
    have h := Rat.mul_le_mul_of_nonneg_right b (Rat.le_of_lt hq100)
    rw [fld3 hq100] at h
    have : ((10 * D : Int) : Rat) ≤ ((310 + 2303 * 10 ^ (k + 3) : Int) : Rat) := by
      rw [Rat.intCast_mul, Rat.intCast_add, Rat.intCast_mul, show (((10 : Int)) : Rat) = 10 from rfl, show (((310 : Int)) : Rat) = 310 from rfl, show (((2303 : Int)) : Rat) = 2303 from rfl]
      grind
    exact Rat.intCast_le_intCast.mp this
  have c2 : D ≤ 100 * (x - 10 ^ (k + 3)) + 31 := by
    have h := Rat.mul_le_mul_of_nonneg_right c (Rat.le_of_lt hq100)
    rw [fld3 hq100] at h
    have e : ((x : Rat) / ((10 ^ (k + 3) : Int) : Rat) - 1) * (100 * ((10 ^ (k + 3) : Int) : Rat)) = 100 * (x - ((10 ^ (k + 3) : Int) : Rat)) := by
      generalize (((10 : Int) ^ (k + 3) : Int) : Rat) = N at *
      have : N ≠ 0 := by grind
      grind
    rw [e] at h
    have : ((D : Int) : Rat) ≤ ((100 * (x - 10 ^ (k + 3)) + 31 : Int) : Rat) := by
      rw [Rat.intCast_add, Rat.intCast_mul, Rat.intCast_sub, show (((100 : Int)) : Rat) = 100 from rfl, show (((31 : Int)) : Rat) = 31 from rfl]
      grind
    exact Rat.intCast_le_intCast.mp this
  refine ⟨by omega, by omega, by omega⟩
/-- (C) the logarithm of x / N comes back by _iexp -/
theorem law_C {k : Nat} {x D E : Int} (h1 : 10 ^ (k + 3) ≤ x) (h2 : x ≤ 10 * 10 ^ (k + 3)) (hD : IsIlog (k + 5) (x * 100) (10 ^ (k + 5)) D) (hE : IsIexp (k + 3) (divN D 100) (10 ^ (k + 3)) E) :
    -68 < E - x ∧ E - x < 68 := by
  have hk := pow_k k
  obtain ⟨l, u⟩ := dl_lg h1 h2 hD
  obtain ⟨t0, t1, _⟩ := dl_told h1 h2 hD
  obtain ⟨_, _, el, eu⟩ := ie_final (by omega) rfl hk t0 t1 hE
  have hNq := cast_k hk
  have hq : (0 : Rat) < ((10 ^ (k + 3) : Int) : Rat) := by grind
  have h1q : ((10 ^ (k + 3) : Int) : Rat) ≤ x := by exact_mod_cast h1
  have h2q : (x : Rat) ≤ 10 * ((10 ^ (k + 3) : Int) : Rat) := by
    have := Rat.intCast_le_intCast.mpr h2
    rw [Rat.intCast_mul] at this
    exact this
  have bk := back_log (q := (x : Rat) / ((10 ^ (k + 3) : Int) : Rat)) (N := ((10 ^ (k + 3) : Int) : Rat)) (e := eh 0) (B := 31) (w := 82 / 100) (rdiv_pos (by grind) hq) hNq (by grind) (by grind) (by grind) (by grind) l u el eu
  have q10 : (x : Rat) / ((10 ^ (k + 3) : Int) : Rat) ≤ 10 := rdiv_le hq (by grind)
  have e1 : ((10 ^ (k + 3) : Int) : Rat) * ((x : Rat) / ((10 ^ (k + 3) : Int) : Rat)) = x := by rw [Rat.mul_comm]; exact fld3 hq
  rw [e1] at bk
  have e0 : eh 0 = 223167 / 5000 := rfl
  rw [e0] at bk
  have a : ((E - x : Int) : Rat) < ((68 : Int) : Rat) := by rw [Rat.intCast_sub, show (((68 : Int)) : Rat) = 68 from rfl]; grind
  have b : ((-68 : Int) : Rat) < ((E - x : Int) : Rat) := by rw [Rat.intCast_sub, show (((-68 : Int)) : Rat) = -68 from rfl]; grind
  exact ⟨Rat.intCast_lt_intCast.mp b, Rat.intCast_lt_intCast.mp a⟩
/-- (A) beside one -/
theorem law_A {k : Nat} {y D E : Int} (hy : 1 ≤ y) (hy2 : y ≤ 3 * 10 ^ k) (hD : IsIlog (k + 5) ((10 ^ (k + 3) + y) * 100) (10 ^ (k + 5)) D) (hE : IsIexp (k + 3) (divN D 100) (10 ^ (k + 3)) E) :
    -1 ≤ E - 10 ^ (k + 3) - y ∧ E - 10 ^ (k + 3) - y ≤ 1 := by
  have hk := pow_k k
  have h3 := pow_3 k
  have hT := ten_k k
  have h1 : (10 : Int) ^ (k + 3) ≤ 10 ^ (k + 3) + y := by omega
  have h2 : (10 : Int) ^ (k + 3) + y ≤ 10 * 10 ^ (k + 3) := by omega
  obtain ⟨l, u⟩ := dl_lg h1 h2 hD
  obtain ⟨t0, _, t1⟩ := dl_told h1 h2 hD
  obtain ⟨_, _, el, eu⟩ := ie_small (by omega) rfl hk t0 (by omega) hE
  have hNq := cast_k hk
  have hq : (0 : Rat) < ((10 ^ (k + 3) : Int) : Rat) := by grind
  have hyq : (0 : Rat) ≤ y := by exact_mod_cast (show 0 ≤ y by omega)
  have ecast : ((10 ^ (k + 3) + y : Int) : Rat) = ((10 ^ (k + 3) : Int) : Rat) + y := by rw [Rat.intCast_add]
  have hy3 : 333 * (y : Rat) ≤ ((10 ^ (k + 3) : Int) : Rat) := by
    have := Rat.intCast_le_intCast.mpr (show 333 * y ≤ 10 ^ (k + 3) by omega)
    rw [Rat.intCast_mul] at this
    exact this
  have bk := back_log (q := ((10 ^ (k + 3) + y : Int) : Rat) / ((10 ^ (k + 3) : Int) : Rat)) (N := ((10 ^ (k + 3) : Int) : Rat)) (e := 51 / 100) (B := 31) (w := 82 / 100) (rdiv_pos (by grind) hq) hNq (by grind) (by grind) (by grind) (by grind) l u el eu
  have q10 : ((10 ^ (k + 3) + y : Int) : Rat) / ((10 ^ (k + 3) : Int) : Rat) ≤ 101 / 100 := rdiv_le hq (by grind)
  have e1 : ((10 ^ (k + 3) : Int) : Rat) * (((10 ^ (k + 3) + y : Int) : Rat) / ((10 ^ (k + 3) : Int) : Rat)) = ((10 ^ (k + 3) + y : Int) : Rat) := by rw [Rat.mul_comm]; exact fld3 hq
  rw [e1] at bk
  have a : ((E - (10 ^ (k + 3) + y) : Int) : Rat) < ((2 : Int) : Rat) := by rw [Rat.intCast_sub, show (((2 : Int)) : Rat) = 2 from rfl]; grind
  have b : ((-2 : Int) : Rat) < ((E - (10 ^ (k + 3) + y) : Int) : Rat) := by rw [Rat.intCast_sub, show (((-2 : Int)) : Rat) = -2 from rfl]; grind
  have a' := Rat.intCast_lt_intCast.mp a
  have b' := Rat.intCast_lt_intCast.mp b
  omega
/-- (B) and back -/
theorem law_B {k : Nat} {y D E : Int} (hy : 1 ≤ y) (hy2 : y ≤ 3 * 10 ^ k) (hE : IsIexp (k + 3) y (10 ^ (k + 3)) E) : 10 ^ (k + 3) ≤ E ∧ E ≤ 2 * 10 ^ (k + 3) ∧
    (IsIlog (k + 5) (E * 100) (10 ^ (k + 5)) D → -1 ≤ divN D 100 - y ∧ divN D 100 - y ≤ 1) := by
  have hk := pow_k k
  have h3 := pow_3 k
  have hT := ten_k k
  obtain ⟨e0, e1, el, eu⟩ := ie_small (by omega) rfl hk (by omega) (by omega) hE
  have hNq := cast_k hk
  have hq : (0 : Rat) < ((10 ^ (k + 3) : Int) : Rat) := by grind
  have hy3 : 333 * (y : Rat) ≤ ((10 ^ (k + 3) : Int) : Rat) := by
    have := Rat.intCast_le_intCast.mpr (show 333 * y ≤ 10 ^ (k + 3) by omega)
    rw [Rat.intCast_mul] at this
    exact this
  have e2 : E ≤ 2 * 10 ^ (k + 3) := by
    have : ((E : Int) : Rat) ≤ ((2 * 10 ^ (k + 3) : Int) : Rat) := by rw [Rat.intCast_mul, show (((2 : Int)) : Rat) = 2 from rfl]; grind
    exact Rat.intCast_le_intCast.mp this
  refine ⟨e0, e2, fun hD => ?_⟩
  obtain ⟨l, u⟩ := dl_lg e0 (by omega) hD
  have e0q : ((10 ^ (k + 3) : Int) : Rat) ≤ E := by exact_mod_cast e0
  have bk := back_exp (N := ((10 ^ (k + 3) : Int) : Rat)) (M := 100 * ((10 ^ (k + 3) : Int) : Rat)) (e := 51 / 100) (f := 0) (F := 0) (B := 31) (x := (y : Rat)) (D := (D : Rat)) (E := (E : Rat)) hNq (by grind) (by grind) (by grind) (by grind) (by grind) e0q el eu (by rw [Rat.add_zero]; exact l) (by rw [Rat.add_zero]; exact u)
  have k1 : 100 * ((10 ^ (k + 3) : Int) : Rat) * ((51 / 100 + 0) / (((10 ^ (k + 3) : Int) : Rat) - 100)) ≤ 57 := by
    have : 100 * ((10 ^ (k + 3) : Int) : Rat) * ((51 / 100 + 0) / (((10 ^ (k + 3) : Int) : Rat) - 100)) = 51 * ((10 ^ (k + 3) : Int) : Rat) / (((10 ^ (k + 3) : Int) : Rat) - 100) := by
      generalize (((10 : Int) ^ (k + 3) : Int) : Rat) = N at *
      have : N - 100 ≠ 0 := by grind
      grind
    rw [this]
    exact rdiv_le (by grind) (by grind)
  have k2 : 100 * ((10 ^ (k + 3) : Int) : Rat) * ((y : Rat) / ((10 ^ (k + 3) : Int) : Rat)) = 100 * y := by
    generalize (((10 : Int) ^ (k + 3) : Int) : Rat) = N at *
    have : N ≠ 0 := by grind
    grind
  rw [k2] at bk
  have db := divN_bounds D (b := 100) (by decide)
  have a : ((D : Int) : Rat) ≤ ((100 * y + 88 : Int) : Rat) := by rw [Rat.intCast_add, Rat.intCast_mul, show (((88 : Int)) : Rat) = 88 from rfl, show (((100 : Int)) : Rat) = 100 from rfl]; grind
  have b : ((100 * y - 88 : Int) : Rat) ≤ ((D : Int) : Rat) := by rw [Rat.intCast_sub, Rat.intCast_mul, show (((88 : Int)) : Rat) = 88 from rfl, show (((100 : Int)) : Rat) = 100 from rfl]; grind
  have a' := Rat.intCast_le_intCast.mp a
  have b' := Rat.intCast_le_intCast.mp b
  omega
/-- (D) -/
theorem law_D {k : Nat} {u D E : Int} (hu : 1 ≤ u) (hu2 : u ≤ 23 * 10 ^ k) (hE : IsIexp (k + 4) (1000 * u) (10 ^ (k + 4)) E) : 10 ^ (k + 4) ≤ E ∧ E < 10 * 10 ^ (k + 4) ∧
    (IsIlog (k + 3) (divN E 10) (10 ^ (k + 3)) D → divN D 100 = u) := by
  have hk := pow_k k
  have h3 := pow_3 k
  have h4 := pow_4 k
  have hT := ten_k k
  have h43 : (10 : Int) ^ (k + 4) = 10 * 10 ^ (k + 3) := by omega
  obtain ⟨e0, e1, el, eu⟩ := ie_final (by omega) rfl (by omega) (show 0 ≤ 1000 * u by omega) (by omega) hE
  have hNq : (10000 : Rat) ≤ ((10 ^ (k + 4) : Int) : Rat) := by
    have := Rat.intCast_le_intCast.mpr (show (10000 : Int) ≤ 10 ^ (k + 4) by omega)
    exact this
  have hq : (0 : Rat) < ((10 ^ (k + 4) : Int) : Rat) := by grind
  have c0 : eh 0 = 223167 / 5000 := rfl
  rw [c0] at el eu
  have hr : ((1000 * u : Int) : Rat) / ((10 ^ (k + 4) : Int) : Rat) ≤ 23 / 10 := by
    refine rdiv_le hq ?_
    have := Rat.intCast_le_intCast.mpr (show 10 * (1000 * u) ≤ 23 * 10 ^ (k + 4) by omega)
    rw [Rat.intCast_mul 10 (1000 * u), Rat.intCast_mul 23, show (((10 : Int)) : Rat) = 10 from rfl, show (((23 : Int)) : Rat) = 23 from rfl] at this
    grind
  have e2 : E < 10 * 10 ^ (k + 4) := by
    rcases Int.lt_or_le E (10 * 10 ^ (k + 4)) with g | g
    · exact g
    · exfalso
      have gq := Rat.intCast_le_intCast.mpr g
      rw [Rat.intCast_mul, show (((10 : Int)) : Rat) = 10 from rfl] at gq
      have h5 : (9995 / 1000 : Rat) ≤ ((E : Rat) - 223167 / 5000) / ((10 ^ (k + 4) : Int) : Rat) := le_rdiv hq (by grind)
      have := log10_lo.le (eu.mono Rat.le_refl h5)
      grind
  refine ⟨e0, e2, fun hD => ?_⟩
  have db := divN_bounds E (b := 10) (by decide)
  have x1 : 10 ^ (k + 3) ≤ divN E 10 := le_divN (by decide) (by omega)
  have x2 : divN E 10 ≤ 10 * 10 ^ (k + 3) := divN_le (by decide) (by omega)
  obtain ⟨l, uu⟩ := ilog_B (by omega) rfl hk x1 x2 hD
  have e0q : ((10 ^ (k + 4) : Int) : Rat) ≤ E := by exact_mod_cast e0
  have hN3 : ((10 ^ (k + 4) : Int) : Rat) = 10 * ((10 ^ (k + 3) : Int) : Rat) := by rw [h43, Rat.intCast_mul]; rfl
  have f1 : -(5 : Rat) ≤ 10 * (divN E 10 : Rat) - E := by
    have := Rat.intCast_le_intCast.mpr (show E - 5 ≤ 10 * divN E 10 by omega)
    rw [Rat.intCast_sub, Rat.intCast_mul, show (((10 : Int)) : Rat) = 10 from rfl, show (((5 : Int)) : Rat) = 5 from rfl] at this
    grind
  have f2 : 10 * (divN E 10 : Rat) - E ≤ 5 := by
    have := Rat.intCast_le_intCast.mpr (show 10 * divN E 10 ≤ E + 5 by omega)
    rw [Rat.intCast_add, Rat.intCast_mul, show (((10 : Int)) : Rat) = 10 from rfl, show (((5 : Int)) : Rat) = 5 from rfl] at this
    grind
  have eq1 : ((divN E 10 : Int) : Rat) / ((10 ^ (k + 3) : Int) : Rat) = ((E : Rat) + (10 * (divN E 10 : Rat) - E)) / ((10 ^ (k + 4) : Int) : Rat) := by
    rw [hN3]
    generalize (((10 : Int) ^ (k + 3) : Int) : Rat) = N at *
    have : N ≠ 0 := by grind
    grind
  rw [eq1] at l uu
  have bk := back_exp (N := ((10 ^ (k + 4) : Int) : Rat)) (M := ((10 ^ (k + 3) : Int) : Rat)) (e := 223167 / 5000) (f := 10 * (divN E 10 : Rat) - E) (F := 5) (B := 31) (x := ((1000 * u : Int) : Rat)) (D := (D : Rat)) (E := (E : Rat)) (by grind) (by grind) (by grind) (by grind) f1 f2 e0q el eu l uu
  have k1 : ((10 ^ (k + 3) : Int) : Rat) * ((223167 / 5000 + 5) / (((10 ^ (k + 4) : Int) : Rat) - 100)) ≤ 6 := by
    rw [hN3]
    have : ((10 ^ (k + 3) : Int) : Rat) * ((223167 / 5000 + 5) / (10 * ((10 ^ (k + 3) : Int) : Rat) - 100)) = (223167 / 5000 + 5) * ((10 ^ (k + 3) : Int) : Rat) / (10 * ((10 ^ (k + 3) : Int) : Rat) - 100) := by grind
    rw [this]
    exact rdiv_le (by grind) (by grind)
  have k2 : ((10 ^ (k + 3) : Int) : Rat) * (((1000 * u : Int) : Rat) / ((10 ^ (k + 4) : Int) : Rat)) = 100 * u := by
    rw [hN3, Rat.intCast_mul, show (((1000 : Int)) : Rat) = 1000 from rfl]
    have hz : ((10 ^ (k + 3) : Int) : Rat) ≠ 0 := by grind
    generalize (((10 : Int) ^ (k + 3) : Int) : Rat) = N at *
    grind
  rw [k2] at bk
  have db2 := divN_bounds D (b := 100) (by decide)
  have a : ((D : Int) : Rat) ≤ ((100 * u + 37 : Int) : Rat) := by rw [Rat.intCast_add, Rat.intCast_mul, show (((37 : Int)) : Rat) = 37 from rfl, show (((100 : Int)) : Rat) = 100 from rfl]; grind
  have b : ((100 * u - 37 : Int) : Rat) ≤ ((D : Int) : Rat) := by rw [Rat.intCast_sub, Rat.intCast_mul, show (((37 : Int)) : Rat) = 37 from rfl, show (((100 : Int)) : Rat) = 100 from rfl]; grind
  have a' := Rat.intCast_le_intCast.mp a
  have b' := Rat.intCast_le_intCast.mp b
  omega
end Mine

end
section
open PySem PySem.W PySem.Calls PyProof.Rows PyProof.V PySem.Spec
namespace Mine
section
variable {prog : Program} {w : World} {A : Around} {E : Value → Shared → Prop} {s : Shared} {env : Env} {h₀ : Heap} {x : Str} {body : List Stmt} {Q : Flow → Shared → Prop}
/-- a tuple of ints -/
abbrev tupO (vs : List Value) : Obj := { cls := .type "tuple", data := .seq vs.toArray }
/-- what a turn keeps: the ledger, and the names that no turn stores -/
def TlS (x : Str) (stored : List Str) (m₀ : Str → Option Value) (news : List (Addr × Obj)) (m : Str → Option Value) (nx : List (Addr × Obj)) : Prop :=
  nx = news ∧ ∀ z, z ≠ x → stored.contains z = false → m z = m₀ z
/-- a loop over a written tuple of two ints, of which both have P: one turn for both -/
theorem tl_two {l : Addr} {a b : Int} {ta tb : Tok} {m₀ : Str → Option Value} {news : List (Addr × Obj)} (stored : List Str) (P : Int → Prop)
    (hh : A.handled = none) (hl : (l, tupO [.int a ta, .int b tb]) ∈ news) (F : Fr h₀ env.locals s.heap m₀) (N : News h₀ env.locals s.heap news) (ha : P a) (hb : P b)
    (turn : ∀ (n : Int) (t : Tok) (u : Str → Option Value) h tk own, P n → OwnOff own (news.map (·.1)) → Fr h₀ env.locals h (fun y => if y = x then some (.int n t) else if stored.contains y then u y else m₀ y) → News h₀ env.locals h (news ++ own) →
      wpAny (model prog w) A (execs body env) (InvPostN h₀ env.locals (TlS x stored m₀ news) own (news.map (·.1)) { s with heap := h, toks := tk } Q) E { s with heap := h, toks := tk })
    (done : ∀ (u : Str → Option Value) h tk, Fr h₀ env.locals h (fun y => if y = x then u y else if stored.contains y then u y else m₀ y) → News h₀ env.locals h news → Q .next { s with heap := h, toks := tk }) :
    wpAny (model prog w) A (pyIter (.ref l)) (fun it s₂ => LoopAtV prog w A h₀ env x body Q E it s₂) E s := by
  have hol : s.heap.get? l = some (tupO [.int a ta, .int b tb]) := (N _ hl).1
  have hls : s.heap.IsTuple l [Value.int a ta, Value.int b tb].toArray := ⟨_, hol, rfl, 0, rfl⟩
  have hne : l ≠ s.heap.objs.size := Nat.ne_of_lt (Heap.lt_size hol)
  refine wpAny_pyIter_tuple hls ?_
  have W := Walks.tuple (prog := prog) (w := w) hh s.heap.objs.size l hne [Value.int a ta, Value.int b tb].toArray
  refine ⟨_, _, _, 2, _, _, m₀, news, (fun _ m nx => TlS x stored m₀ news m nx), rfl, W, ?_, ?_, ?_, ⟨⟨_, Heap.get?_push_size _ rfl, rfl, rfl⟩, hls.push _⟩, F.push _, (fun p hp => ⟨Heap.get?_push_of_some _ (N p hp).1, (N p hp).2⟩), ⟨rfl, fun _ _ _ => rfl⟩, ?_, ?_⟩
  · intro hm
    rcases List.mem_cons.mp hm with e | hm
    · exact absurd F.ns.lt (e ▸ Nat.lt_irrefl _)
    · exact (N _ hl).2.1 ((List.mem_singleton.mp hm).symm)
  · intro b hb
    rw [List.mem_singleton.mp hb]
    exact next_is_new F
  · intro p hp hI
    exact absurd (Heap.lt_size (N p hp).1) ((List.mem_singleton.mp hI) ▸ Nat.lt_irrefl _)
  · rintro i v m₁ news₁ s₁ own ⟨hh', tk', rfl⟩ hin hP ⟨rfl, hJ⟩ hoff hown hget hfp _ F₁ N₁
    have hsep : OwnOff (own.filter fun p => decide (p.1 = s.heap.objs.size)) (news₁.map (·.1)) := by
      intro p hp b hb e
      obtain ⟨q, hq, rfl⟩ := List.mem_map.mp hb
      have h1 : p.1 = s.heap.objs.size := by simpa using (List.mem_filter.mp hp).2
      exact absurd (Heap.lt_size (N q hq).1) (by rw [← e, h1]; exact Nat.lt_irrefl _)
    obtain ⟨n, t, rfl, hn⟩ : ∃ n t, v = .int n t ∧ P n := by
      have hi : i = 0 ∨ i = 1 := by omega
      rcases hi with rfl | rfl
      · exact ⟨a, ta, by simpa using hP.symm, ha⟩
      · exact ⟨b, tb, by simpa using hP.symm, hb⟩
    have N₂ : News h₀ env.locals hh' (news₁ ++ own.filter fun p => decide (p.1 = s.heap.objs.size)) := fun p hp => N₁ p ((List.mem_append.mp hp).elim (fun h => List.mem_append.mpr (.inr h)) fun h => List.mem_append.mpr (.inl ((List.mem_filter.mp h).1)))
    have hlo : hh'.get? l = some (tupO [.int a ta, .int b tb]) := (N₁ _ (List.mem_append.mpr (.inr hl))).1
    have hmap : (fun z => if z = x then some (Value.int n t) else m₁ z) = fun z => if z = x then some (.int n t) else if stored.contains z then m₁ z else m₀ z := by
      funext z
      by_cases h1 : z = x
      · simp only [h1, if_true]
      · simp only [h1, if_false]
        cases h3 : stored.contains z with
        | true => simp
        | false => simp only [Bool.false_eq_true, if_false]; exact hJ z h1 h3
    rw [hmap] at F₁
    refine wpAny_mono (turn n t m₁ hh' tk' _ hn hsep F₁ N₂) (fun f s₂ p => ?_) fun _ _ e => e
    have fin : InvEndN h₀ env.locals (TlS x stored m₀ news₁) (own.filter fun p => decide (p.1 = s.heap.objs.size)) (news₁.map (·.1)) { s with heap := hh', toks := tk' } s₂ →
        LoopStepU h₀ env.locals [s.heap.objs.size] own (fun m nx => TlS x stored m₀ news₁ m nx) { s with heap := hh', toks := tk' } .next s₂ := by
      rintro ⟨h', tk, m', news', nx, e, F', N', hn, ho, had, hm⟩
      obtain rfl := hm.1
      refine ⟨rfl, h', tk, m', nx, e, F', fun p hp => ?_, fun p hp => ?_, hm⟩
      · rcases List.mem_append.mp hp with h | h
        · by_cases hI : p.1 = s.heap.objs.size
          · exact N' p (ho p (List.mem_filter.mpr ⟨h, by simpa using hI⟩))
          · have h1 : p.1 = l := by
              rcases List.mem_cons.mp (hown p h) with h2 | h2
              · exact absurd h2 hI
              · exact List.mem_singleton.mp h2
            have h2 : hh'.get? p.1 = some p.2 := hget p h
            rw [h1, hlo] at h2
            have h3 : p = (l, tupO [.int a ta, .int b tb]) := Prod.ext h1 (Option.some.inj h2).symm
            rw [h3]
            exact N' _ (hn _ hl)
        · exact N' p (hn p h)
      · intro hI
        exact absurd (Heap.lt_size (N p hp).1) (by rw [List.mem_singleton.mp hI]; exact Nat.lt_irrefl _)
    cases f with
    | ret v => exact .ret p
    | brk => exact .brk p
    | next => exact .next (fin p)
    | cont => exact .cont (fin p)
  · rintro h' tk m' news' F' N' _ ⟨rfl, hJ⟩
    refine done m' h' tk ?_ N'
    have hmap : (fun z => if z = x then m' z else if stored.contains z then m' z else m₀ z) = m' := by
      funext z
      by_cases h1 : z = x
      · simp only [h1, if_true]
      · simp only [h1, if_false]
        cases h3 : stored.contains z with
        | true => simp
        | false => simp only [Bool.false_eq_true, if_false]; exact (hJ z h1 h3).symm
    rw [hmap]; exact F'
end
end Mine

end
section
open PySem PySem.W PySem.Calls PyProof.Rows PyProof.V PySem.Spec
namespace Mine
section
variable {M : Model} {A : Around} {E : Value → Shared → Prop} {s : Shared} {env : Env} {Q : Unit → Shared → Prop}
theorem st5_n {D : Int} {t : Tok} (h : ∀ k : Nat, k ≤ 29 → (0 : Int) < 10 ^ k → (10 : Int) ^ (k + 3) = 1000 * 10 ^ k → wpAny M A (storeName env (Str.ofString "n") (.int (k : Int) t)) Q E s) :
    wpAny M A (storeName env (Str.ofString "n") (.int (D.fmod 30) t)) Q E s := by
  have := fmod_rng (D := D) (b := 30) (by decide)
  have e : D.fmod 30 = ((D.fmod 30).toNat : Int) := by omega
  rw [e]
  exact h _ (by omega) (ten_k _) (pow_3 _)
theorem st5_one {k : Nat} {t : Tok} (h : wpAny M A (storeName env (Str.ofString "one") (.int (10 ^ (k + 3)) t)) Q E s) :
    wpAny M A (storeName env (Str.ofString "one") (.int (10 ^ ((k : Int) + 3).toNat) t)) Q E s := by
  rw [show ((k : Int) + 3).toNat = k + 3 by omega]; exact h
theorem st5_top {a : Int} {k : Nat} {t : Tok} (h : wpAny M A (storeName env (Str.ofString "top") (.int (a * 10 ^ k) t)) Q E s) :
    wpAny M A (storeName env (Str.ofString "top") (.int (a * 10 ^ (k : Int).toNat) t)) Q E s := by
  rw [Int.toNat_natCast]; exact h
theorem st5_top2 {a b : Int} {k : Nat} {t : Tok} (h : wpAny M A (storeName env (Str.ofString "top") (.int (a * 10 ^ k - b) t)) Q E s) :
    wpAny M A (storeName env (Str.ofString "top") (.int (a * 10 ^ (k : Int).toNat - b) t)) Q E s := by
  rw [Int.toNat_natCast]; exact h
end
section
variable {prog : Program} {w : World} {A : Around} {E : Value → Shared → Prop} {s : Shared} {env : Env} {h₀ : Heap} {x : Str} {body : List Stmt} {Q : Flow → Shared → Prop}
/-- the loops of y and of u -/
theorem tl5_y {l : Addr} {D a : Int} {k : Nat} {ta tb : Tok} {m₀ : Str → Option Value} {news : List (Addr × Obj)} (stored : List Str) (ha : 0 < a) (hT : (0 : Int) < 10 ^ k)
    (hh : A.handled = none) (hl : (l, tupO [.int (a * 10 ^ k - D.fmod (a * 10 ^ k)) ta, .int (1 + D.fmod (a * 10 ^ k)) tb]) ∈ news) (F : Fr h₀ env.locals s.heap m₀) (N : News h₀ env.locals s.heap news)
    (turn : ∀ (n : Int) (t : Tok) (u : Str → Option Value) h tk own, 1 ≤ n → n ≤ a * 10 ^ k → OwnOff own (news.map (·.1)) → Fr h₀ env.locals h (fun y => if y = x then some (.int n t) else if stored.contains y then u y else m₀ y) → News h₀ env.locals h (news ++ own) →
      wpAny (model prog w) A (execs body env) (InvPostN h₀ env.locals (TlS x stored m₀ news) own (news.map (·.1)) { s with heap := h, toks := tk } Q) E { s with heap := h, toks := tk })
    (done : ∀ (u : Str → Option Value) h tk, Fr h₀ env.locals h (fun y => if y = x then u y else if stored.contains y then u y else m₀ y) → News h₀ env.locals h news → Q .next { s with heap := h, toks := tk }) :
    wpAny (model prog w) A (pyIter (.ref l)) (fun it s₂ => LoopAtV prog w A h₀ env x body Q E it s₂) E s := by
  have := fmod_rng (D := D) (b := a * 10 ^ k) (Int.mul_pos ha hT)
  exact tl_two stored (fun n => 1 ≤ n ∧ n ≤ a * 10 ^ k) hh hl F N ⟨by omega, by omega⟩ ⟨by omega, by omega⟩ (fun n t u h tk own hn => turn n t u h tk own hn.1 hn.2) done
/-- the loop of c -/
theorem tl5_c {l : Addr} {D : Int} {k : Nat} {ta tb : Tok} {m₀ : Str → Option Value} {news : List (Addr × Obj)} (stored : List Str) (hT : (0 : Int) < 10 ^ k)
    (hh : A.handled = none) (hl : (l, tupO [.int (10 ^ ((k : Int) + 1).toNat - 1 - D.fmod (9 * 10 ^ k - 1)) ta, .int (10 ^ (k : Int).toNat + 1 + D.fmod (9 * 10 ^ k - 1)) tb]) ∈ news) (F : Fr h₀ env.locals s.heap m₀) (N : News h₀ env.locals s.heap news)
    (turn : ∀ (n : Int) (t : Tok) (u : Str → Option Value) h tk own, 10 ^ k < n → n < 10 * 10 ^ k → OwnOff own (news.map (·.1)) → Fr h₀ env.locals h (fun y => if y = x then some (.int n t) else if stored.contains y then u y else m₀ y) → News h₀ env.locals h (news ++ own) →
      wpAny (model prog w) A (execs body env) (InvPostN h₀ env.locals (TlS x stored m₀ news) own (news.map (·.1)) { s with heap := h, toks := tk } Q) E { s with heap := h, toks := tk })
    (done : ∀ (u : Str → Option Value) h tk, Fr h₀ env.locals h (fun y => if y = x then u y else if stored.contains y then u y else m₀ y) → News h₀ env.locals h news → Q .next { s with heap := h, toks := tk }) :
    wpAny (model prog w) A (pyIter (.ref l)) (fun it s₂ => LoopAtV prog w A h₀ env x body Q E it s₂) E s := by
  have hr := fmod_rng (D := D) (b := 9 * 10 ^ k - 1) (by omega)
  have e1 : (10 : Int) ^ ((k : Int) + 1).toNat = 10 * 10 ^ k := by
    rw [show ((k : Int) + 1).toNat = k + 1 by omega, Int.pow_succ]; omega
  rw [e1, Int.toNat_natCast] at hl
  exact tl_two stored (fun n => 10 ^ k < n ∧ n < 10 * 10 ^ k) hh hl F N ⟨by omega, by omega⟩ ⟨by omega, by omega⟩ (fun n t u h tk own hn => turn n t u h tk own hn.1 hn.2) done
end
theorem Fit.upTo {n : Nat} {a x : Int} (h : Fit n a) (h0 : 0 ≤ x) (h1 : x ≤ a) : Fit n x := Fit.of_le h (by omega) h1
theorem T_fit5 {k : Nat} (hk : k ≤ 29) : Fit 200 ((10 : Int) ^ k) := by
  have h : (10 : Int) ^ k ≤ 10 ^ 29 := by
    obtain ⟨j, hj⟩ := Nat.le.dest hk
    rw [← hj, Int.pow_add]
    have a := ten_k k
    have b := ten_k j
    have := Int.mul_le_mul_of_nonneg_left (show (1 : Int) ≤ 10 ^ j by omega) (Int.le_of_lt a)
    omega
  have e : Fit 200 ((10 : Int) ^ 29) := by unfold Fit; decide +kernel
  exact Fit.upTo e (Int.le_of_lt (ten_k k)) h
theorem T_fit6 {k : Nat} (hk : k ≤ 29) : Fit 300 (1000000000 * (10 : Int) ^ k) := by
  have := Fit.mul (n := 30) (x := 1000000000) (by unfold Fit; decide) (T_fit5 hk)
  exact Fit.mono this (by decide)
/-- all numbers of the law are small -/
theorem F5 {k : Nat} {x : Int} (hk : k ≤ 29) (h0 : 0 ≤ x) (h1 : x ≤ 1000000000 * 10 ^ k) : Fit 300 x := Fit.upTo (T_fit6 hk) h0 h1
/-! the calls of _dlog -/
theorem d5A {k : Nat} : (k : Int) + 3 + 2 = ((k + 5 : Nat) : Int) := by omega
theorem d5D {k : Nat} : (k : Int) + 1 + 2 = ((k + 3 : Nat) : Int) := by omega
theorem dlC_2 {c k : Int} : dlC c (-k - 3 + (k + 3) + 2) = c * 100 := by
  rw [show -k - 3 + (k + 3) + 2 = 2 by omega, dlC_pos (by decide)]; rfl
theorem dlC_5 {c k : Int} : dlC c (-k + (k + 3) + 2) = c * 100000 := by
  rw [show -k + (k + 3) + 2 = 5 by omega, dlC_pos (by decide)]; rfl
theorem dlC_m1 {c k : Int} : dlC c (-k - 4 + (k + 1) + 2) = divN c 10 := by
  rw [show -k - 4 + (k + 1) + 2 = -1 by omega, dlC_neg (by decide)]; rfl
theorem nd5 {k j : Nat} {x : Int} (h1 : 10 ^ k ≤ x) (h2 : x < 10 * 10 ^ k) (hj : j = k + 1) : nd x = j := by
  rw [hj]; exact nd_eq h1 (by rw [Int.pow_succ]; omega)
section
variable {k : Nat} {y c u E r : Int}
/-- (A) -/
theorem a5nd (h1 : 1 ≤ y) (h2 : y ≤ 3 * 10 ^ k) : -(k : Int) - 3 + (nd (10 ^ (k + 3) + y) : Int) = 0 ∨ -(k : Int) - 3 + (nd (10 ^ (k + 3) + y) : Int) = 1 := by
  have := pow_3 k
  have := nd5 (k := k + 3) (j := k + 4) (x := 10 ^ (k + 3) + y) (by omega) (by omega) rfl
  omega
theorem a5red (h1 : 1 ≤ y) (h2 : y ≤ 3 * 10 ^ k) : RedOk (dlC (10 ^ (k + 3) + y) (-(k : Int) - 3 + ((k : Int) + 3) + 2)) (10 ^ (k + 5)) := by
  rw [dlC_2]
  have := pow_3 k
  have := pow_5 k
  have := pow_k k
  exact redOk_B (by omega) (by omega) (by omega)
theorem a5told (h : ∃ d, IsIlog (k + 5) (dlC (10 ^ (k + 3) + y) (-(k : Int) - 3 + ((k : Int) + 3) + 2)) (10 ^ (k + 5)) d ∧ r = divN d 100) (h1 : 1 ≤ y) (h2 : y ≤ 3 * 10 ^ k) : 0 ≤ r ∧ r ≤ y := by
  rw [dlC_2] at h
  obtain ⟨d, hd, rfl⟩ := h
  have := pow_3 k
  have t := dl_told (x := 10 ^ (k + 3) + y) (by omega) (by omega) hd
  omega
theorem a5end (hE : IsIexp (k + 3) r (10 ^ (k + 3)) E) (h : ∃ d, IsIlog (k + 5) (dlC (10 ^ (k + 3) + y) (-(k : Int) - 3 + ((k : Int) + 3) + 2)) (10 ^ (k + 5)) d ∧ r = divN d 100) (h1 : 1 ≤ y) (h2 : y ≤ 3 * 10 ^ k) : ¬ 1 < (if E - 10 ^ (k + 3) - y < 0 then -(E - 10 ^ (k + 3) - y) else E - 10 ^ (k + 3) - y) := by
  rw [dlC_2] at h
  obtain ⟨d, hd, rfl⟩ := h
  have := law_A h1 h2 hd hE
  split <;> omega
/-- (B) -/
theorem b5nd (hE : IsIexp (k + 3) y (10 ^ (k + 3)) E) (h1 : 1 ≤ y) (h2 : y ≤ 3 * 10 ^ k) : -(k : Int) - 3 + (nd E : Int) = 0 ∨ -(k : Int) - 3 + (nd E : Int) = 1 := by
  have b := law_B (D := 0) h1 h2 hE
  have := pow_k k
  have := nd5 (k := k + 3) (j := k + 4) (x := E) (by omega) (by omega) rfl
  omega
theorem b5fit (hE : IsIexp (k + 3) y (10 ^ (k + 3)) E) (h1 : 1 ≤ y) (h2 : y ≤ 3 * 10 ^ k) (hk : k ≤ 29) : Fit 300 E := by
  have b := law_B (D := 0) h1 h2 hE
  have := pow_k k
  have := pow_3 k
  exact F5 hk (by omega) (by omega)
theorem b5red (hE : IsIexp (k + 3) y (10 ^ (k + 3)) E) (h1 : 1 ≤ y) (h2 : y ≤ 3 * 10 ^ k) : RedOk (dlC E (-(k : Int) - 3 + ((k : Int) + 3) + 2)) (10 ^ (k + 5)) := by
  rw [dlC_2]
  have b := law_B (D := 0) h1 h2 hE
  have := pow_5 k
  have := pow_k k
  exact redOk_B (by omega) (by omega) (by omega)
theorem b5end (hE : IsIexp (k + 3) y (10 ^ (k + 3)) E) (h : ∃ d, IsIlog (k + 5) (dlC E (-(k : Int) - 3 + ((k : Int) + 3) + 2)) (10 ^ (k + 5)) d ∧ r = divN d 100) (h1 : 1 ≤ y) (h2 : y ≤ 3 * 10 ^ k) : ¬ 1 < (if r - y < 0 then -(r - y) else r - y) := by
  rw [dlC_2] at h
  obtain ⟨d, hd, rfl⟩ := h
  have := (law_B h1 h2 hE).2.2 hd
  split <;> omega
/-- (C) -/
theorem c5nd (h1 : 10 ^ k < c) (h2 : c < 10 * 10 ^ k) : -(k : Int) + (nd c : Int) = 0 ∨ -(k : Int) + (nd c : Int) = 1 := by
  have := nd5 (k := k) (j := k + 1) (x := c) (by omega) (by omega) rfl
  omega
theorem c5x {D : Int} (hd : IsIlog (k + 5) (c * 100000) (10 ^ (k + 5)) D) : IsIlog (k + 5) (1000 * c * 100) (10 ^ (k + 5)) D := by
  rw [show 1000 * c * 100 = c * 100000 by omega]; exact hd
theorem c5red (h1 : 10 ^ k < c) (h2 : c < 10 * 10 ^ k) : RedOk (dlC c (-(k : Int) + ((k : Int) + 3) + 2)) (10 ^ (k + 5)) := by
  rw [dlC_5]
  have := pow_3 k
  have := pow_5 k
  have := pow_k k
  exact redOk_B (by omega) (by omega) (by omega)
theorem c5told (h : ∃ d, IsIlog (k + 5) (dlC c (-(k : Int) + ((k : Int) + 3) + 2)) (10 ^ (k + 5)) d ∧ r = divN d 100) (h1 : 10 ^ k < c) (h2 : c < 10 * 10 ^ k) : 0 ≤ r ∧ 100 * r ≤ 231 * 10 ^ (k + 3) := by
  rw [dlC_5] at h
  obtain ⟨d, hd, rfl⟩ := h
  have := pow_3 k
  have t := dl_told (x := 1000 * c) (by omega) (by omega) (c5x hd)
  omega
theorem c5end (hE : IsIexp (k + 3) r (10 ^ (k + 3)) E) (h : ∃ d, IsIlog (k + 5) (dlC c (-(k : Int) + ((k : Int) + 3) + 2)) (10 ^ (k + 5)) d ∧ r = divN d 100) (h1 : 10 ^ k < c) (h2 : c < 10 * 10 ^ k) : ¬ 68 ≤ (if E - 1000 * c < 0 then -(E - 1000 * c) else E - 1000 * c) := by
  rw [dlC_5] at h
  obtain ⟨d, hd, rfl⟩ := h
  have := pow_3 k
  have := law_C (x := 1000 * c) (by omega) (by omega) (c5x hd) hE
  split <;> omega
/-- (D) -/
theorem p5_4 : (10 : Int) * 10 ^ (k + 3) = 10 ^ (k + 4) := by rw [Int.pow_succ 10 (k + 3)]; omega
theorem d5nd (hE : IsIexp (k + 4) (1000 * u) (10 * 10 ^ (k + 3)) E) (h1 : 1 ≤ u) (h2 : u ≤ 23 * 10 ^ k) : -(k : Int) - 4 + (nd E : Int) = 0 ∨ -(k : Int) - 4 + (nd E : Int) = 1 := by
  rw [p5_4] at hE
  have b := law_D (D := 0) h1 h2 hE
  have := nd5 (k := k + 4) (j := k + 5) (x := E) (by omega) (by omega) rfl
  omega
theorem d5fit (hE : IsIexp (k + 4) (1000 * u) (10 * 10 ^ (k + 3)) E) (h1 : 1 ≤ u) (h2 : u ≤ 23 * 10 ^ k) (hk : k ≤ 29) : Fit 300 E := by
  rw [p5_4] at hE
  have b := law_D (D := 0) h1 h2 hE
  have := pow_4 k
  have := ten_k k
  exact F5 hk (by omega) (by omega)
theorem d5red (hE : IsIexp (k + 4) (1000 * u) (10 * 10 ^ (k + 3)) E) (h1 : 1 ≤ u) (h2 : u ≤ 23 * 10 ^ k) : RedOk (dlC E (-(k : Int) - 4 + ((k : Int) + 1) + 2)) (10 ^ (k + 3)) := by
  rw [p5_4] at hE
  rw [dlC_m1]
  have b := law_D (D := 0) h1 h2 hE
  have := pow_4 k
  have := pow_3 k
  have := pow_k k
  exact redOk_B (by omega) (le_divN (by decide) (by omega)) (divN_le (by decide) (by omega))
theorem d5end (hE : IsIexp (k + 4) (1000 * u) (10 * 10 ^ (k + 3)) E) (h : ∃ d, IsIlog (k + 3) (dlC E (-(k : Int) - 4 + ((k : Int) + 1) + 2)) (10 ^ (k + 3)) d ∧ r = divN d 100) (h1 : 1 ≤ u) (h2 : u ≤ 23 * 10 ^ k) : ¬ r ≠ u := by
  rw [p5_4] at hE
  rw [dlC_m1] at h
  obtain ⟨d, hd, rfl⟩ := h
  have := (law_D h1 h2 hE).2.2 hd
  omega
/-! the calls of _iexp -/
theorem i5fit (hk : k ≤ 29) : Fit 1500 (20 * (10 : Int) ^ (k + 3)) := by
  have := pow_3 k
  have := ten_k k
  exact Fit.mono (F5 (x := 20 * (10 : Int) ^ (k + 3)) hk (by omega) (by omega)) (by decide)
theorem i5fitD (hk : k ≤ 29) : Fit 1500 (20 * (10 * (10 : Int) ^ (k + 3))) := by
  have := pow_3 k
  have := ten_k k
  exact Fit.mono (F5 (x := 20 * (10 * (10 : Int) ^ (k + 3))) hk (by omega) (by omega)) (by decide)
theorem i5okA (h : 0 ≤ r ∧ r ≤ y) (h2 : y ≤ 3 * 10 ^ k) : 0 ≤ r ∧ r ≤ 4 * 10 ^ (k + 3) ∧ IeOk (k + 3) r (10 ^ (k + 3)) := by
  have := pow_3 k
  have := ten_k k
  exact ⟨h.1, by omega, ie_ok (by omega) rfl h.1 (by omega)⟩
theorem i5okC (h : 0 ≤ r ∧ 100 * r ≤ 231 * 10 ^ (k + 3)) : 0 ≤ r ∧ r ≤ 4 * 10 ^ (k + 3) ∧ IeOk (k + 3) r (10 ^ (k + 3)) := by
  have := pow_k k
  exact ⟨h.1, by omega, ie_ok (by omega) rfl h.1 h.2⟩
theorem i5okB (h1 : 1 ≤ y) (h2 : y ≤ 3 * 10 ^ k) : 0 ≤ y ∧ y ≤ 4 * 10 ^ (k + 3) ∧ IeOk (k + 3) y (10 ^ (k + 3)) := i5okA (y := y) ⟨by omega, by omega⟩ h2
theorem i5okD (h1 : 1 ≤ u) (h2 : u ≤ 23 * 10 ^ k) : 0 ≤ 1000 * u ∧ 1000 * u ≤ 4 * (10 * 10 ^ (k + 3)) ∧ IeOk (k + 4) (1000 * u) (10 * 10 ^ (k + 3)) := by
  have := pow_3 k
  have := pow_4 k
  have := ten_k k
  exact ⟨by omega, by omega, ie_ok (by omega) p5_4 (by omega) (by omega)⟩
end
end Mine

end
section
open PySem PySem.W PyProof.Rows
open_top hd for PySem.Challenge.rw_dm0271_05
namespace Mine
section
abbrev CI (w : World) (mean : ExcName → Option Value) (mg mb : Str → Option Value) (d : Nat) (f : Addr) (vs : List Value) (P : Int → Prop) : Prop :=
  ConI PySem.Challenge.rw_dm0271_05.row.prog w (hd.heap_39 w.params) hd.view_39 (looseW hd.view_39 [Str.ofString "_nbits", Str.ofString "_ilog", Str.ofString "_log10_digits", Str.ofString "_iexp"]) mean mg mb d f vs P
abbrev CX (w : World) (mean : ExcName → Option Value) (mg mb : Str → Option Value) (d : Nat) (f : Addr) (vs : List Value) (r : Int) : Prop :=
  ConX PySem.Challenge.rw_dm0271_05.row.prog w (hd.heap_39 w.params) hd.view_39 (looseW hd.view_39 [Str.ofString "_nbits", Str.ofString "_ilog", Str.ofString "_log10_digits", Str.ofString "_iexp"]) mean mg mb d f vs r
local macro_rules | `(tactic| walk_at "call builtin:divmod") => `(tactic| ((with_reducible show wpAny _ _ (call (Value.builtin _) [Value.int _ _, Value.int _ _]) _ _ _); refine divmod_N (by assumption) (by assumption) (by omega) ?_ (Or.inl (Fit.noPylong (by assumption) (by decide))); intro _ _ _))
local macro_rules | `(tactic| walk_at "binaryOp FloorDiv int int") => `(tactic| ((with_reducible show wpAny _ _ (binaryOp Operator.FloorDiv (Value.int _ _) (Value.int _ _)) _ _ _); (refine floordiv_int ?m1 ?_ (Or.inl (Fit.noPylong (n := 9000) ?m2 (by decide))); (case m1 => omega); (case m2 => first | assumption | k_extra "fit"))))
theorem con_div (w : World) (mean) (mg mb) (a b : Int) (ta tb : Tok) (hb : 0 < b) (hf : Fit 9000 b) : CX w mean mg mb 1 35 [.int a ta, .int b tb] (divN a b) := by
  unfold CX ConX
  k_fill
  intros; rename_i hret
  refine wpAny_call ?_
  w_on
  k_with_none
  k_dflt cell_enter
  k_steps
  · exact con_retX hret (divN_walk hb) (by assumption) (by assumption) (by intro p hp; simp [hp])
theorem con_rsh (w : World) (mean) (mg mb) (x n : Int) (tx tn : Tok) (hn : 0 ≤ n) (hn2 : n ≤ 100) : CX w mean mg mb 1 28 [.int x tx, .int n tn] (divN x (2 ^ n.toNat)) := by
  unfold CX ConX
  k_fill
  intros; rename_i hret
  refine wpAny_call ?_
  w_on
  k_with_none
  k_dflt cell_enter
  k_steps
  · exact con_retX hret rshN_walk (by assumption) (by assumption) (by intro p hp; simp [hp])
theorem con_sq (w : World) (mean) (mg mb) (n z : Int) (tn tz : Tok) (hn : 0 < n) (hz : 0 < z) (hf : Fit 9000 (z + n)) : CI w mean mg mb 1 21 [.int n tn, .int z tz] (IsSq n) := by
  unfold CI ConI
  k_fill
  intros; rename_i hret
  refine wpAny_call ?_
  w_on
  k_with_none
  k_dflt cell_enter
  k_with "exec While Compare cons nil" => k_while (fun _ b a => 0 < a ∧ a ≤ z + n ∧ (b = 0 ∨ (0 < b ∧ a = sqStep n b))) (fun _ b a => sqMeas n b a) "b" "a"
  k_with "state" => exact sq_turn hn hz (by assumption) (by assumption)
  k_with "measure" => exact sq_meas hn (by assumption) (by assumption)
  k_with "fit" => exact Fit.of_le hf (by omega) (by omega)
  k_steps
  · exact con_retI hret (sq_out (by assumption) (by assumption) (by assumption)) (by assumption) (by assumption) (by intro p hp; simp [hp])

end
section
local macro_rules | `(tactic| walk_at "binaryOp FloorDiv int int") => `(tactic| ((with_reducible show wpAny _ _ (binaryOp Operator.FloorDiv (Value.int _ _) (Value.int _ _)) _ _ _); (refine floordiv_int ?m1 ?_ (Or.inl (Fit.noPylong (n := 9000) ?m2 (by decide))); (case m1 => first | omega | k_extra "ne"); (case m2 => first | assumption | k_extra "fit"))))
local macro_rules | `(tactic| walk_at "binaryOp Mult int int") => `(tactic| ((with_reducible show wpAny _ _ (binaryOp Operator.Mult (Value.int _ _) (Value.int _ _)) _ _ _); (with_reducible refine mul_int ?_ ?m1); (case m1 => k_extra "mul")))
local macro_rules | `(tactic| walk_at "binaryOp LShift int int") => `(tactic| ((with_reducible show wpAny _ _ (binaryOp Operator.LShift (Value.int _ _) (Value.int _ _)) _ _ _); (with_reducible refine lshift_int ?m1 ?m2 ?_); (case m1 => omega); (case m2 => k_extra "shl")))
local macro_rules | `(tactic| walk_at "call type:str") => `(tactic| ((with_reducible show wpAny _ _ (call (Value.type "str") [Value.int _ _]) _ _ _); (refine P.str_of_int ?m1 ?_); (case m1 => k_extra "str")))
local macro_rules | `(tactic| walk_at "call builtin:len") => `(tactic| ((with_reducible show wpAny _ _ (call (Value.builtin "len") [Value.str _ _]) _ _ _); (refine P.len_str ?m1 ?_); (case m1 => k_extra "len")))
local macro_rules | `(tactic| walk_at "call ref") => `(tactic| (k_here; k_dflt (first
  | (refine' con_div _ _ _ _ _ _ _ _ ?p1 ?p2 _ _ _ _ _ _ _ _ _ _ _ _ _ _ _ _ _ _ ?k1 ?k2 ?k3 ?k4 ?k5 ?kK ?kd ?ku ?_; (case p1 => first | omega | k_extra "pos"); (case p2 => first | assumption | k_extra "fit"); (case k1 => k_asm); (case k2 => k_asm); (case k3 => k_asm); (case k4 => k_asm); (case k5 => k_asm); (case kK => first | exact rfl | assumption); (case kd => ktr_room); (case ku => ktr_units); intro t9 h9 tk9 F9 N9; (try dsimp only); (try k_fold))
  | (refine' con_rsh _ _ _ _ _ _ _ _ ?p1 ?p2 _ _ _ _ _ _ _ _ _ _ _ _ _ _ _ _ _ _ ?k1 ?k2 ?k3 ?k4 ?k5 ?kK ?kd ?ku ?_; (case p1 => omega); (case p2 => omega); (case k1 => k_asm); (case k2 => k_asm); (case k3 => k_asm); (case k4 => k_asm); (case k5 => k_asm); (case kK => first | exact rfl | assumption); (case kd => ktr_room); (case ku => ktr_units); intro t9 h9 tk9 F9 N9; (try dsimp only); (try k_fold))
  | (refine' con_sq _ _ _ _ _ _ _ _ ?p1 ?p2 ?p3 _ _ _ _ _ _ _ _ _ _ _ _ _ _ _ _ _ _ ?k1 ?k2 ?k3 ?k4 ?k5 ?kK ?kd ?ku ?_; (case p1 => first | omega | k_extra "pos"); (case p2 => first | omega | k_extra "pos"); (case p3 => first | assumption | k_extra "fit"); (case k1 => k_asm); (case k2 => k_asm); (case k3 => k_asm); (case k4 => k_asm); (case k5 => k_asm); (case kK => first | exact rfl | assumption); (case kd => ktr_room); (case ku => ktr_units); intro r9 t9 h9 tk9 P9 F9 N9; (try dsimp only); (try k_fold)))))

local macro_rules | `(tactic| cell_enter) => `(tactic| (refine' code_def ?k1 ?k2 ?k3 ?k4 ?k5 ?kA ?kF ?kK ?k6 ?k7 ?k8 ?k9 ?kB ?_ ?c2 ?c3 ?c4 ?c5; (case kA => exact rfl); (case kF => exact rfl); (case kK => assumption); (case k1 => k_asm); (case k2 => k_asm); (case k3 => k_asm); (case k4 => k_asm); (case k5 => k_asm); (case k6 => k_is); (case k7 => k_is); (case k8 => ktr_room); (case k9 => first | exact BindsTo.of_eq rfl | exact binds_K (by k_in) rfl (by k_is) rfl rfl rfl); (case c5 => decide); (case kB => exact locs rfl); (case c2 => exact rfl); (case c3 => exact rfl); (case c4 => exact rfl); k_whole; intro g' L' h' FG' F' N' B' X' T'; (try dsimp only); (try k_lift B'); (try k_fold)))
local macro_rules | `(tactic| walk_at "exec While") => `(tactic| k_extra "my while")
theorem con_ilog (w : World) (mean) (mg mb) (p : Nat) (x M : Int) (tx tM : Tok) (hM : M = 10 ^ p) (hp : p ≤ 1000) (hM0 : 0 < M) (hMf : Fit 1500 (20 * M))
   (hR : RedOk x M) : CI w mean mg mb 2 43 [.int x tx, .int M tM] (IsIlog p x M) := by
  unfold CI ConI
  k_fill
  intros; rename_i hret
  refine wpAny_call ?_
  w_on
  k_with_none
  k_dflt cell_enter
  k_with "my while" => k_while (fun _ y R => 0 ≤ R ∧ R ≤ 14 ∧ -(10 * M) ≤ y ∧ y ≤ 10 * M ∧ 0 < M + divN y (2 ^ R.toNat) ∧ RedTo x M R.toNat y) (fun _ y R => (20 - R).toNat) "y" "R"
  k_with "fit0" => first | assumption | exact Fit.of_le hMf (by omega) (by omega) | (with_reducible refine' Fit.sq ?fa ?fb; (case fb => assumption); (case fa => k_extra "fit0")) | (with_reducible refine' Fit.divN ?fa ?fb; (case fb => exact Int.pow_pos (by decide)); (case fa => k_extra "fit0")) | (with_reducible refine' Fit.add ?fa ?fb; (case fa => k_extra "fit0"); (case fb => k_extra "fit0")) | (with_reducible refine' Fit.mul ?fa ?fb; (case fa => k_extra "fit0"); (case fb => k_extra "fit0")) | (with_reducible refine' Fit.abs ?fa; (case fa => k_extra "fit0")) | exact Fit.small (by omega) (by omega)
  k_with "fit" => first | exact Fit.mono (T_fit hM hp) (by decide) | (refine' Fit.mono ?fx ?fy; (case fx => k_extra "fit0"); (case fy => decide))
  k_with "mul" => (refine' Fit.mulOk ?a ?b ?c; (case a => k_extra "fit0"); (case b => k_extra "fit0"); (case c => decide))
  k_with "shl" => (refine' Fit.shl ?a ?b ?c; (case a => k_extra "fit0"); (case b => omega); (case c => decide))
  k_with "str" => exact Fit.log2 (n := 1500) (Fit.of_le hMf (by omega) (by omega)) (by decide) (by decide)
  k_with "len" => exact Fit.len (n := 1500) (Fit.of_le hMf (by omega) (by omega)) (by decide) (by decide)
  k_with "pos" => first | exact T_pos hM | exact Int.mul_pos hM0 (by assumption) | exact Int.add_pos hM0 (IsSq.pos (by assumption))
  k_with "pyIter ref" => k_state_given ["yshift", "w!"] (fun ys w0 pre w => w = horn M ys w0 pre ∧ -(2 * M + 2) ≤ w ∧ w ≤ 2 * M + 2 ∧ -M ≤ 2 * ys ∧ 2 * ys ≤ M) "w"
  k_with "state" => first | exact hs_start hM0 (T_pos hM) (Int.not_le.mp (mt (cond1 (by omega) (by omega)).mpr (by assumption))) | exact hs_start hM0 (T_pos hM) (Int.not_le.mp (mt (cond2 (by omega)).mpr (by assumption))) |  exact il_start hR | exact il_turn hR (by omega) (by assumption) ((cond1 (by omega) (by omega)).mp (by assumption)) (by assumption) | exact hs_turn hM0 (by omega) (by assumption) (by assumption) (by assumption) (by assumption) (by assumption) | exact il_turn hR (by omega) (by assumption) ((cond2 (by omega)).mp (by assumption)) (by assumption)
  have hT0 := T_pos hM
  have hT1 := T_hi hM hp
  k_steps
  · exact con_retI hret (il_end hM (by assumption) (Int.not_le.mp (mt (cond1 (by omega) (by omega)).mpr (by assumption))) (by assumption)) (by assumption) (by assumption) (by intro p hp; simp [hp])
  · exact con_retI hret (il_end hM (by assumption) (Int.not_le.mp (mt (cond2 (by omega)).mpr (by assumption))) (by assumption)) (by assumption) (by assumption) (by intro p hp; simp [hp])

end
section
local macro_rules | `(tactic| walk_at "binaryOp FloorDiv int int") => `(tactic| ((with_reducible show wpAny _ _ (binaryOp Operator.FloorDiv (Value.int _ _) (Value.int _ _)) _ _ _); (refine floordiv_int ?m1 ?_ (Or.inl (Fit.noPylong (n := 9000) ?m2 (by decide))); (case m1 => first | omega | k_extra "ne"); (case m2 => first | assumption | k_extra "fit"))))
local macro_rules | `(tactic| walk_at "binaryOp Mult int int") => `(tactic| ((with_reducible show wpAny _ _ (binaryOp Operator.Mult (Value.int _ _) (Value.int _ _)) _ _ _); (with_reducible refine mul_int ?_ ?m1); (case m1 => k_extra "mul")))
local macro_rules | `(tactic| walk_at "binaryOp LShift int int") => `(tactic| ((with_reducible show wpAny _ _ (binaryOp Operator.LShift (Value.int _ _) (Value.int _ _)) _ _ _); (with_reducible refine lshift_int ?m1 ?m2 ?_); (case m1 => omega); (case m2 => k_extra "shl")))
local macro_rules | `(tactic| walk_at "call type:str") => `(tactic| ((with_reducible show wpAny _ _ (call (Value.type "str") [Value.int _ _]) _ _ _); (refine P.str_of_int ?m1 ?_); (case m1 => k_extra "str")))
local macro_rules | `(tactic| walk_at "call builtin:len") => `(tactic| ((with_reducible show wpAny _ _ (call (Value.builtin "len") [Value.str _ _]) _ _ _); (refine P.len_str ?m1 ?_); (case m1 => k_extra "len")))
local macro_rules | `(tactic| walk_at "call ref") => `(tactic| (k_here; k_dflt (first
  | (refine' con_div _ _ _ _ _ _ _ _ ?p1 ?p2 _ _ _ _ _ _ _ _ _ _ _ _ _ _ _ _ _ _ ?k1 ?k2 ?k3 ?k4 ?k5 ?kK ?kd ?ku ?_; (case p1 => first | omega | k_extra "pos"); (case p2 => first | assumption | k_extra "fit"); (case k1 => k_asm); (case k2 => k_asm); (case k3 => k_asm); (case k4 => k_asm); (case k5 => k_asm); (case kK => first | exact rfl | assumption); (case kd => ktr_room); (case ku => ktr_units); intro t9 h9 tk9 F9 N9; (try dsimp only); (try k_fold))
  | (refine' con_rsh _ _ _ _ _ _ _ _ ?p1 ?p2 _ _ _ _ _ _ _ _ _ _ _ _ _ _ _ _ _ _ ?k1 ?k2 ?k3 ?k4 ?k5 ?kK ?kd ?ku ?_; (case p1 => omega); (case p2 => omega); (case k1 => k_asm); (case k2 => k_asm); (case k3 => k_asm); (case k4 => k_asm); (case k5 => k_asm); (case kK => first | exact rfl | assumption); (case kd => ktr_room); (case ku => ktr_units); intro t9 h9 tk9 F9 N9; (try dsimp only); (try k_fold))
  | (refine' con_sq _ _ _ _ _ _ _ _ ?p1 ?p2 ?p3 _ _ _ _ _ _ _ _ _ _ _ _ _ _ _ _ _ _ ?k1 ?k2 ?k3 ?k4 ?k5 ?kK ?kd ?ku ?_; (case p1 => first | omega | k_extra "pos"); (case p2 => first | omega | k_extra "pos"); (case p3 => first | assumption | k_extra "fit"); (case k1 => k_asm); (case k2 => k_asm); (case k3 => k_asm); (case k4 => k_asm); (case k5 => k_asm); (case kK => first | exact rfl | assumption); (case kd => ktr_room); (case ku => ktr_units); intro r9 t9 h9 tk9 P9 F9 N9; (try dsimp only); (try k_fold)))))

local macro_rules | `(tactic| walk_at "call ref") => `(tactic| (k_here; k_dflt (
   (refine' con_ilog _ _ _ _ _ _ _ _ _ ?p1 ?p2 ?p3 ?p4 ?p5 _ _ _ _ _ _ _ _ _ _ _ _ _ _ _ _ _ _ ?k1 ?k2 ?k3 ?k4 ?k5 ?kK ?kd ?ku ?_; (case p1 => k_extra "ilM"); (case p2 => k_extra "ilp"); (case p3 => k_extra "il0"); (case p4 => k_extra "ilF"); (case p5 => k_extra "ilR"); (case k1 => k_asm); (case k2 => k_asm); (case k3 => k_asm); (case k4 => k_asm); (case k5 => k_asm); (case kK => first | exact rfl | assumption); (case kd => ktr_room); (case ku => ktr_units); intro r9 t9 h9 tk9 P9 F9 N9; (try dsimp only); (try k_fold)))))

local macro_rules | `(tactic| walk_at "storeName") => `(tactic| k_extra "norm")
local macro_rules | `(tactic| walk_at "inplaceOp Mult int int") => `(tactic| ((with_reducible show wpAny _ _ (inplaceOp Operator.Mult (Value.int _ _) (Value.int _ _)) _ _ _); (with_reducible refine imul_int ?_ ?m1); (case m1 => k_extra "mul")))
theorem con_dlog (w : World) (mean) (mg mb) (n : Nat) (c e p : Int) (tc te tp : Tok) (hn : p + 2 = n) (hn0 : 0 < n) (hn1 : n ≤ 200) (hc : Fit 1100 c) (he : -200 ≤ e ∧ e ≤ 50) (hl : e + nd c = 0 ∨ e + nd c = 1) (hR : RedOk (dlC c (e + p + 2)) (10 ^ n)) : CI w mean mg mb 3 50 [.int c tc, .int e te, .int p tp] (fun r => ∃ d, IsIlog n (dlC c (e + p + 2)) (10 ^ n) d ∧ r = divN d 100) := by
  unfold CI ConI
  k_fill
  intros; rename_i hret
  refine wpAny_call ?_
  w_on
  k_with_none
  k_dflt cell_enter
  obtain ⟨K, hK⟩ : ∃ K, K = e + p + 2 := ⟨_, rfl⟩
  rw [← hK] at hR hret
  have hk : e + (n : Int) - 0 = K := by omega
  have hf := f_zero hl
  unfold nd at hf
  k_with "norm" => first | rw [hf] | rw [hk] | rw [hn]
  k_with "str" => exact Fit.log2 hc (by decide) (by decide)
  k_with "len" => exact Fit.len hc (by decide) (by decide)
  k_with "mul" => exact Fit.mulOk hc (Fit.ten rfl (by omega)) (by decide)
  k_with "pos" => exact Int.pow_pos (by decide)
  k_with "fit" => first | exact Fit.mono (Fit.ten rfl (by omega)) (by decide) | exact Fit.mono (Fit.small (by decide) (by decide)) (by decide)
  k_with "ilM" => exact ten_nat n
  k_with "ilp" => omega
  k_with "il0" => exact Int.pow_pos (by decide)
  k_with "ilF" => exact ten_fit hn1
  k_with "ilR" => first | exact ilR1 (by omega) hR | exact ilR2 (by omega) hR
  k_steps
  · exact con_retI hret (dl_end1 (by omega) (by assumption) rfl) (by assumption) (by assumption) (by intro p hp; simp [hp])
  · exact con_retI hret (dl_end2 (by omega) (by assumption) rfl) (by assumption) (by assumption) (by intro p hp; simp [hp])

end
section
local macro_rules | `(tactic| walk_at "binaryOp FloorDiv int int") => `(tactic| ((with_reducible show wpAny _ _ (binaryOp Operator.FloorDiv (Value.int _ _) (Value.int _ _)) _ _ _); (refine floordiv_int ?m1 ?_ (Or.inl (Fit.noPylong (n := 9000) ?m2 (by decide))); (case m1 => first | omega | k_extra "ne"); (case m2 => first | assumption | k_extra "fit"))))
local macro_rules | `(tactic| walk_at "binaryOp Mult int int") => `(tactic| ((with_reducible show wpAny _ _ (binaryOp Operator.Mult (Value.int _ _) (Value.int _ _)) _ _ _); (with_reducible refine mul_int ?_ ?m1); (case m1 => k_extra "mul")))
local macro_rules | `(tactic| walk_at "binaryOp LShift int int") => `(tactic| ((with_reducible show wpAny _ _ (binaryOp Operator.LShift (Value.int _ _) (Value.int _ _)) _ _ _); (with_reducible refine lshift_int ?m1 ?m2 ?_); (case m1 => omega); (case m2 => k_extra "shl")))
local macro_rules | `(tactic| walk_at "call type:str") => `(tactic| ((with_reducible show wpAny _ _ (call (Value.type "str") [Value.int _ _]) _ _ _); (refine P.str_of_int ?m1 ?_); (case m1 => k_extra "str")))
local macro_rules | `(tactic| walk_at "call builtin:len") => `(tactic| ((with_reducible show wpAny _ _ (call (Value.builtin "len") [Value.str _ _]) _ _ _); (refine P.len_str ?m1 ?_); (case m1 => k_extra "len")))
local macro_rules | `(tactic| walk_at "call ref") => `(tactic| (k_here; k_dflt (first
  | (refine' con_div _ _ _ _ _ _ _ _ ?p1 ?p2 _ _ _ _ _ _ _ _ _ _ _ _ _ _ _ _ _ _ ?k1 ?k2 ?k3 ?k4 ?k5 ?kK ?kd ?ku ?_; (case p1 => first | omega | k_extra "pos"); (case p2 => first | assumption | k_extra "fit"); (case k1 => k_asm); (case k2 => k_asm); (case k3 => k_asm); (case k4 => k_asm); (case k5 => k_asm); (case kK => first | exact rfl | assumption); (case kd => ktr_room); (case ku => ktr_units); intro t9 h9 tk9 F9 N9; (try dsimp only); (try k_fold))
  | (refine' con_rsh _ _ _ _ _ _ _ _ ?p1 ?p2 _ _ _ _ _ _ _ _ _ _ _ _ _ _ _ _ _ _ ?k1 ?k2 ?k3 ?k4 ?k5 ?kK ?kd ?ku ?_; (case p1 => omega); (case p2 => omega); (case k1 => k_asm); (case k2 => k_asm); (case k3 => k_asm); (case k4 => k_asm); (case k5 => k_asm); (case kK => first | exact rfl | assumption); (case kd => ktr_room); (case ku => ktr_units); intro t9 h9 tk9 F9 N9; (try dsimp only); (try k_fold))
  | (refine' con_sq _ _ _ _ _ _ _ _ ?p1 ?p2 ?p3 _ _ _ _ _ _ _ _ _ _ _ _ _ _ _ _ _ _ ?k1 ?k2 ?k3 ?k4 ?k5 ?kK ?kd ?ku ?_; (case p1 => first | omega | k_extra "pos"); (case p2 => first | omega | k_extra "pos"); (case p3 => first | assumption | k_extra "fit"); (case k1 => k_asm); (case k2 => k_asm); (case k3 => k_asm); (case k4 => k_asm); (case k5 => k_asm); (case kK => first | exact rfl | assumption); (case kd => ktr_room); (case ku => ktr_units); intro r9 t9 h9 tk9 P9 F9 N9; (try dsimp only); (try k_fold)))))

local macro_rules | `(tactic| walk_at "binaryOp Pow int int") => `(tactic| ((with_reducible show wpAny _ _ (binaryOp Operator.Pow (Value.int _ _) (Value.int _ _)) _ _ _); (with_reducible refine pow_int ?m1 ?m2 ?_); (case m1 => omega); (case m2 => k_extra "pow")))

local macro_rules | `(tactic| cell_enter) => `(tactic| (refine' code_def ?k1 ?k2 ?k3 ?k4 ?k5 ?kA ?kF ?kK ?k6 ?k7 ?k8 ?k9 ?kB ?_ ?c2 ?c3 ?c4 ?c5; (case kA => exact rfl); (case kF => exact rfl); (case kK => assumption); (case k1 => k_asm); (case k2 => k_asm); (case k3 => k_asm); (case k4 => k_asm); (case k5 => k_asm); (case k6 => k_is); (case k7 => k_is); (case k8 => ktr_room); (case k9 => first | exact BindsTo.of_eq rfl | exact binds_K (by k_in) rfl (by k_is) rfl rfl rfl); (case c5 => decide); (case kB => exact locs rfl); (case c2 => exact rfl); (case c3 => exact rfl); (case c4 => exact rfl); k_whole; intro g' L' h' FG' F' N' B' X' T'; (try dsimp only); (try k_lift B'); (try k_fold)))
local macro_rules | `(tactic| walk_at "storeName") => `(tactic| k_extra "norm")
theorem con_iexp (w : World) (mean) (mg mb) (p : Nat) (x M : Int) (tx tM : Tok) (hM : M = 10 ^ p) (hp : p ≤ 1000) (hM0 : 0 < M) (hMf : Fit 1500 (20 * M))
   (hx : 0 ≤ x) (hx2 : x ≤ 4 * M) (hR : IeOk p x M) : CI w mean mg mb 2 90 [.int x tx, .int M tM] (IsIexp p x M) := by
  unfold CI ConI
  k_fill
  intros; rename_i hret
  refine wpAny_call ?_
  w_on
  k_with_none
  k_dflt cell_enter
  have hTw := T_walk hM
  have hT0 := tays_pos p
  have hT1 : tays p ≤ 1000 := by unfold tays; omega
  generalize hT : tays p = T at hTw hT0 hT1
  obtain ⟨R, hRe⟩ : ∃ R : Nat, Builtin.Int.intBits ((x * 2 ^ Int.toNat 8).fdiv M) = R := ⟨_, rfl⟩
  have hRR := ie_R hM0 hx hRe
  have hok := hR R hRR.1 hRR.2
  have hRf := Fit.two R (by omega)
  have hok2 := hok.2
  have hMf2 : Fit 1520 (20000 * M) := by
    have := Fit.mul (Fit.small (x := 1000) (by decide) (by decide)) hMf
    rw [show 1000 * (20 * M) = 20000 * M by omega] at this
    exact Fit.mono this (by decide)
  unfold ieY at hok2
  rw [hT] at hok2
  k_with "norm" => first | (with_reducible refine st_T hTw ?_) | (with_reducible refine st_R hRe ?_) | (with_reducible refine st_Ms ?_)
  k_with "fit0" => first | (with_reducible assumption) | exact Fit.of_le hMf (by omega) (by omega) | exact Fit.of_le hMf2 (by omega) (by omega) | (with_reducible refine' Fit.divN ?fa ?fb; (case fb => exact Int.pow_pos (by decide)); (case fa => k_extra "fit0")) | (with_reducible refine' Fit.add ?fa ?fb; (case fa => k_extra "fit0"); (case fb => k_extra "fit0")) | (with_reducible refine' Fit.mul ?fa ?fb; (case fa => k_extra "fit0"); (case fb => k_extra "fit0")) | exact Fit.small (by omega) (by omega) | exact Fit.two _ (by omega)
  k_with "fit" => (refine' Fit.mono ?fx ?fy; (case fx => k_extra "fit0"); (case fy => decide))
  have hMR : Fit 1700 (M * 2 ^ R) := Fit.mul (Fit.of_le hMf (by omega) (by omega)) hRf
  k_with "mul" => first | exact Fit.mulOk (n := 1500) (m := 3201) (Fit.of_le hMf (by omega) (by omega)) (Fit.add (n := 1700) (m := 1500) hMR (Fit.of_le hMf (by omega) (by omega))) (by decide) | (refine' Fit.mulOk ?a ?b ?c; (case a => k_extra "fit0"); (case b => k_extra "fit0"); (case c => decide))
  k_with "shl" => (refine' Fit.shl ?a ?b ?c; (case a => k_extra "fit0"); (case b => omega); (case c => decide))
  k_with "str" => exact Fit.log2 (n := 1500) (Fit.of_le hMf (by omega) (by omega)) (by decide) (by decide)
  k_with "len" => exact Fit.len (n := 1500) (Fit.of_le hMf (by omega) (by omega)) (by decide) (by decide)
  k_with "pos" => first | exact Int.mul_pos hM0 (Int.pow_pos (by decide)) | exact Int.mul_pos (Int.mul_pos hM0 (Int.pow_pos (by decide))) (by omega)
  k_with "pyIter ref" => (k_of "i" => k_state (fun pre y => y = ieT (M * 2 ^ R) x T pre.length ∧ 0 ≤ y ∧ y ≤ 2 * x) "y")
  k_with "pyIter ref" => (k_of "k" => k_state (fun pre y => y = ieD M (ieT (M * 2 ^ R) x T (T - 1)) R pre.length ∧ 0 ≤ y ∧ y ≤ 20000 * M) "y")
  have hMs : 256 * x < M * 2 ^ R := hRR.1
  have hst0 := ieT_start (Ms := M * 2 ^ R) hx hT0
  have hdst : ieT (M * 2 ^ R) x T (T - 1) = ieD M (ieT (M * 2 ^ R) x T (T - 1)) R ([] : List Int).length := rfl
  k_with "state" => first | exact hst0 | exact ieT_turn hx hMs (by omega) (by assumption) (by assumption) (by assumption) (by assumption) | exact ie_dstart (by assumption) (by assumption) (by assumption) hx2 | exact ieD_turn (by omega) (by assumption) (by assumption) hok2
  k_steps
  · exact con_retI hret (ie_end hT hMs hRR.2 (by assumption)) (by assumption) (by assumption) (by intro p hp; simp [hp])

end
section
local macro_rules | `(tactic| walk_at "binaryOp FloorDiv int int") => `(tactic| ((with_reducible show wpAny _ _ (binaryOp Operator.FloorDiv (Value.int _ _) (Value.int _ _)) _ _ _); (refine floordiv_int ?m1 ?_ (Or.inl (Fit.noPylong (n := 9000) ?m2 (by decide))); (case m1 => first | omega | k_extra "ne"); (case m2 => first | assumption | k_extra "fit"))))
local macro_rules | `(tactic| walk_at "binaryOp Mult int int") => `(tactic| ((with_reducible show wpAny _ _ (binaryOp Operator.Mult (Value.int _ _) (Value.int _ _)) _ _ _); (with_reducible refine mul_int ?_ ?m1); (case m1 => k_extra "mul")))
local macro_rules | `(tactic| walk_at "binaryOp LShift int int") => `(tactic| ((with_reducible show wpAny _ _ (binaryOp Operator.LShift (Value.int _ _) (Value.int _ _)) _ _ _); (with_reducible refine lshift_int ?m1 ?m2 ?_); (case m1 => omega); (case m2 => k_extra "shl")))
local macro_rules | `(tactic| walk_at "call type:str") => `(tactic| ((with_reducible show wpAny _ _ (call (Value.type "str") [Value.int _ _]) _ _ _); (refine P.str_of_int ?m1 ?_); (case m1 => k_extra "str")))
local macro_rules | `(tactic| walk_at "call builtin:len") => `(tactic| ((with_reducible show wpAny _ _ (call (Value.builtin "len") [Value.str _ _]) _ _ _); (refine P.len_str ?m1 ?_); (case m1 => k_extra "len")))
local macro_rules | `(tactic| walk_at "call ref") => `(tactic| (k_here; k_dflt (first
  | (refine' con_div _ _ _ _ _ _ _ _ ?p1 ?p2 _ _ _ _ _ _ _ _ _ _ _ _ _ _ _ _ _ _ ?k1 ?k2 ?k3 ?k4 ?k5 ?kK ?kd ?ku ?_; (case p1 => first | omega | k_extra "pos"); (case p2 => first | assumption | k_extra "fit"); (case k1 => k_asm); (case k2 => k_asm); (case k3 => k_asm); (case k4 => k_asm); (case k5 => k_asm); (case kK => first | exact rfl | assumption); (case kd => ktr_room); (case ku => ktr_units); intro t9 h9 tk9 F9 N9; (try dsimp only); (try k_fold))
  | (refine' con_rsh _ _ _ _ _ _ _ _ ?p1 ?p2 _ _ _ _ _ _ _ _ _ _ _ _ _ _ _ _ _ _ ?k1 ?k2 ?k3 ?k4 ?k5 ?kK ?kd ?ku ?_; (case p1 => omega); (case p2 => omega); (case k1 => k_asm); (case k2 => k_asm); (case k3 => k_asm); (case k4 => k_asm); (case k5 => k_asm); (case kK => first | exact rfl | assumption); (case kd => ktr_room); (case ku => ktr_units); intro t9 h9 tk9 F9 N9; (try dsimp only); (try k_fold))
  | (refine' con_sq _ _ _ _ _ _ _ _ ?p1 ?p2 ?p3 _ _ _ _ _ _ _ _ _ _ _ _ _ _ _ _ _ _ ?k1 ?k2 ?k3 ?k4 ?k5 ?kK ?kd ?ku ?_; (case p1 => first | omega | k_extra "pos"); (case p2 => first | omega | k_extra "pos"); (case p3 => first | assumption | k_extra "fit"); (case k1 => k_asm); (case k2 => k_asm); (case k3 => k_asm); (case k4 => k_asm); (case k5 => k_asm); (case kK => first | exact rfl | assumption); (case kd => ktr_room); (case ku => ktr_units); intro r9 t9 h9 tk9 P9 F9 N9; (try dsimp only); (try k_fold)))))

local macro_rules | `(tactic| walk_at "binaryOp Pow int int") => `(tactic| ((with_reducible show wpAny _ _ (binaryOp Operator.Pow (Value.int _ _) (Value.int _ _)) _ _ _); (with_reducible refine pow_int ?m1 ?m2 ?_); (case m1 => omega); (case m2 => k_extra "pow")))

local macro_rules | `(tactic| walk_at "binaryOp Pow int int") => `(tactic| ((with_reducible show wpAny _ _ (binaryOp Operator.Pow (Value.int _ _) (Value.int _ _)) _ _ _); (with_reducible refine pow_int ?m1 ?m2 ?_); (case m1 => omega); (case m2 => k_extra "pow")))
local macro_rules | `(tactic| walk_at "binaryOp Mod int int") => `(tactic| ((with_reducible show wpAny _ _ (binaryOp Operator.Mod (Value.int _ _) (Value.int _ _)) _ _ _); (refine mod_int' ?m1 ?_; (case m1 => first | omega | k_extra "ne"))))
local macro_rules | `(tactic| walk_at "call ref") => `(tactic| (k_here; k_dflt (first
   | (refine' con_dlog _ _ _ _ _ _ _ _ _ _ _ ?p1 ?p2 ?p3 ?p4 ?p5 ?p6 ?p7 _ _ _ _ _ _ _ _ _ _ _ _ _ _ _ _ _ _ ?k1 ?k2 ?k3 ?k4 ?k5 ?kK ?kd ?ku ?_; (case p1 => k_extra "dl1"); (case p2 => k_extra "dl2"); (case p3 => k_extra "dl3"); (case p4 => k_extra "dl4"); (case p5 => k_extra "dl5"); (case p6 => k_extra "dl6"); (case p7 => k_extra "dl7"); (case k1 => k_asm); (case k2 => k_asm); (case k3 => k_asm); (case k4 => k_asm); (case k5 => k_asm); (case kK => first | exact rfl | assumption); (case kd => ktr_room); (case ku => ktr_units); intro r9 t9 h9 tk9 P9 F9 N9; (try dsimp only); (try k_fold))
   | (refine' con_iexp _ _ _ _ _ _ _ _ _ ?p1 ?p2 ?p3 ?p4 ?p5 ?p6 ?p7 _ _ _ _ _ _ _ _ _ _ _ _ _ _ _ _ _ _ ?k1 ?k2 ?k3 ?k4 ?k5 ?kK ?kd ?ku ?_; (case p1 => k_extra "ie1"); (case p2 => k_extra "ie2"); (case p3 => k_extra "ie3"); (case p4 => k_extra "ie4"); (case p5 => k_extra "ie5"); (case p6 => k_extra "ie6"); (case p7 => k_extra "ie7"); (case k1 => k_asm); (case k2 => k_asm); (case k3 => k_asm); (case k4 => k_asm); (case k5 => k_asm); (case kK => first | exact rfl | assumption); (case kd => ktr_room); (case ku => ktr_units); intro r9 t9 h9 tk9 P9 F9 N9; (try dsimp only); (try k_fold)))))
local macro_rules | `(tactic| walk_at "exec For Name Tuple cons nil") => `(tactic| (k_here; (rename Fr _ _ _ _ => lF'); (with_unfolding_all refine' For_invVF lF' ?k1 ?k2 ?_; (case k1 => exact rfl); (case k2 => exact rfl); k_whole)))
local macro_rules | `(tactic| walk_at "pyIter ref") => `(tactic| (k_here; (with_reducible show wpAny _ _ (pyIter (Value.ref _)) (fun it s₂ => LoopAtV _ _ _ _ _ _ _ _ _ it s₂) _ _); (rename Fr _ _ _ _ => lF'); (rename News _ _ _ _ => lN'); (first
   | (with_unfolding_all refine' tl5_y [Str.ofString "told"] ?ha ?hT ?hh ?hl lF' lN' ?_ ?_; (case hl => k_memK); (case ha => decide); (case hT => assumption); (case hh => exact rfl))
   | (with_unfolding_all refine' tl5_c [Str.ofString "told"] ?hT ?hh ?hl lF' lN' ?_ ?_; (case hl => k_memK); (case hT => assumption); (case hh => exact rfl))); (all_goals (try clear lF' lN')); (first | (intro n9 t9 u9 h9 tk9 own9 hn9 hm9 off9 F9 N9; (try k_fold)) | (intro u9 h9 tk9 F9 N9; (try k_fold)))))
local macro_rules | `(tactic| walk_at "InvEndN") => `(tactic| (refine InvEndN.intro (by assumption) (by assumption) ⟨rfl, by (intro z h1 h2; first | rfl | (simp [h1, h2]; done) | (simp_all; done))⟩ (by rfl) (by (with_unfolding_all ((try simp only [List.nil_append, List.cons_append]); k_allIn))) (by (intro p hp; k_ownIn))))
local macro_rules | `(tactic| walk_at "storeName") => `(tactic| first | (with_reducible refine st5_n ?_; intro k9 hk9 hT9 h39) | (with_reducible refine st5_one ?_) | (with_reducible refine st5_top ?_) | (with_reducible refine st5_top2 ?_))
local macro_rules | `(tactic| walk_at "ite") => `(tactic| first
  | (refine split_dec (fun h9 => absurd h9 (a5end (by assumption) (by assumption) (by assumption) (by assumption))) ?_; intro hz9; clear hz9; (try k_fold))
  | (refine split_dec (fun h9 => absurd h9 (b5end (by assumption) (by assumption) (by assumption) (by assumption))) ?_; intro hz9; clear hz9; (try k_fold))
  | (refine split_dec (fun h9 => absurd h9 (c5end (by assumption) (by assumption) (by assumption) (by assumption))) ?_; intro hz9; clear hz9; (try k_fold))
  | (refine split_dec (fun h9 => absurd h9 (d5end (by assumption) (by assumption) (by assumption) (by assumption))) ?_; intro hz9; clear hz9; (try k_fold)))

local macro_rules | `(tactic| walk_at "subscriptTail List") => `(tactic| (k_here; (with_reducible show wpAny _ _ (subscriptTail (PySem.Expr.List [_, _, _] _) (PySem.Expr.Slice _ none none _) (Value.ref _) (Value.ref _)) _ _ _); k_dflt (refine kba_turn (value' := PySem.Expr.Name (PySem.Str.ofString "_") ⟨0, 0, 0, 0⟩) (fun _ => rfl) ?_); k_dflt (refine' kmk_slice_ints ?F ?N ?l ?p ?q ?i ?m ?c ?_ ?s ?t ?z; (case F => k_asm); (case N => k_asm); (case l => kmk_list); (case p => kmk_part); (case q => kmk_part); (case i => exact IntsAre.cons _ _ (IntsAre.cons _ _ (IntsAre.cons _ _ IntsAre.nil))); (case m => exact kmk_from (IntsAre.cons _ _ (IntsAre.cons _ _ (IntsAre.cons _ _ IntsAre.nil))) (by omega)); (case c => kmk_len); (case s => with_unfolding_all rfl); (case t => kmk_pure); (case z => kmk_size)); intro D' ws' h' F' N' l1 hI' hC' hL'; (try k_lt l1); (try k_sweep)))
local macro_rules | `(tactic| walk_at "binaryOp Add ref ref") => `(tactic| (k_here; (with_reducible show wpAny _ _ (binaryOp _ (Value.ref _) (Value.ref _)) _ _ _); k_dflt (refine' add_draw ?F ?N ?a ?b ?i ?j ?_; (case F => k_asm); (case N => k_asm); (case a => kmk_list); (case b => kmk_list); (case i => assumption); (case j => assumption)); intro D' x' y' z' t' u' v' h' F' N' l1; (try k_lt l1); (try k_sweep)))

local macro_rules | `(tactic| walk_at "execs cons") => `(tactic| (dsimp only))
local macro_rules | `(tactic| walk_at "execs nil") => `(tactic| (dsimp only))

theorem t05 : PySem.Challenge.rw_dm0271_05.Holds := hd (by
  w_strict (
  k_with_none
  k_with "fit0" => first | exact Fit.mono (Fit.ten rfl (by omega)) (by decide) | exact Fit.mono (Fit.small (by decide) (by decide)) (by decide) | exact Fit.mono (F5 (by assumption) (by omega) (by omega)) (by decide)
  k_with "mul" => (refine Fit.mulOk (n := 1300) (m := 1300) ?_ ?_ (by decide) <;> k_extra "fit0")
  k_with "pow" => exact Fit.powOk (Fit.small (by decide) (by decide)) ⟨by omega, by omega⟩ (by decide)
  k_with "dl1" => first | exact d5A | exact d5D
  k_with "dl2" => omega
  k_with "dl3" => omega
  k_with "dl4" => first | exact Fit.mono (b5fit (by assumption) (by assumption) (by assumption) (by assumption)) (by decide) | exact Fit.mono (d5fit (by assumption) (by assumption) (by assumption) (by assumption)) (by decide) | exact Fit.mono (F5 (by assumption) (by omega) (by omega)) (by decide)
  k_with "dl5" => exact ⟨by omega, by omega⟩
  k_with "dl6" => first | exact a5nd (by assumption) (by assumption) | exact b5nd (by assumption) (by assumption) (by assumption) | exact c5nd (by assumption) (by assumption) | exact d5nd (by assumption) (by assumption) (by assumption)
  k_with "dl7" => first | exact a5red (by assumption) (by assumption) | exact b5red (by assumption) (by assumption) (by assumption) | exact c5red (by assumption) (by assumption) | exact d5red (by assumption) (by assumption) (by assumption)
  k_with "ie1" => first | exact rfl | exact p5_4
  k_with "ie2" => omega
  k_with "ie3" => omega
  k_with "ie4" => first | exact i5fit (by assumption) | exact i5fitD (by assumption)
  k_with "ie5" => first | exact (i5okB (by assumption) (by assumption)).1 | exact (i5okD (by assumption) (by assumption)).1 | exact (i5okA (a5told (by assumption) (by assumption) (by assumption)) (by assumption)).1 | exact (i5okC (c5told (by assumption) (by assumption) (by assumption))).1
  k_with "ie6" => first | exact (i5okB (by assumption) (by assumption)).2.1 | exact (i5okD (by assumption) (by assumption)).2.1 | exact (i5okA (a5told (by assumption) (by assumption) (by assumption)) (by assumption)).2.1 | exact (i5okC (c5told (by assumption) (by assumption) (by assumption))).2.1
  k_with "ie7" => first | exact (i5okB (by assumption) (by assumption)).2.2 | exact (i5okD (by assumption) (by assumption)).2.2 | exact (i5okA (a5told (by assumption) (by assumption) (by assumption)) (by assumption)).2.2 | exact (i5okC (c5told (by assumption) (by assumption) (by assumption))).2.2
  k_go0
  (all_goals try k_fold)
  k_steps
  · exact absurd (by assumption) (d5end (by assumption) (by assumption) (by assumption) (by assumption))))

end
end Mine
end
theorem PySem.Challenge.cw_dm0271_05_holds : PySem.Challenge.rw_dm0271_05.Holds :=
  Mine.t05
