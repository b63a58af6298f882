import PyProof.Rows.All
import Wide.All
import OpenK.AllK
import Wide.FinOn
import Lean
import PySem.Challenge.RW_dm0271_06
set_option Elab.async false
set_option maxRecDepth 100000
set_option maxHeartbeats 20000000
set_option linter.unusedVariables false
set_option rowWalk.seconds 0
section
namespace Mine
/-! bounds of the logarithm without a logarithm: lists of factors -/
theorem rlt_or_le (a b : Rat) : a < b ∨ b ≤ a := by
  by_cases h : a < b
  · exact Or.inl h
  · exact Or.inr (Rat.not_lt.mp h)
theorem rmul_pow (a b : Rat) : ∀ n : Nat, (a * b) ^ n = a ^ n * b ^ n
  | 0 => by simp only [Rat.pow_zero, Rat.mul_one]
  | n + 1 => by rw [Rat.pow_succ, Rat.pow_succ, Rat.pow_succ, rmul_pow a b n]; grind
theorem rsq_nonneg (x : Rat) : 0 ≤ x * x := by
  rcases rlt_or_le x 0 with h | h
  · have := Rat.mul_nonneg (show 0 ≤ -x by grind) (show 0 ≤ -x by grind)
    grind
  · exact Rat.mul_nonneg h h
theorem fld1 {n B A t : Rat} (hA : 0 < A) (e2 : (n + 1) * B = n * A + t) : 1 + (n + 1) * (B / A - 1) = t / A := by
  have h : A ≠ 0 := by grind
  have : (n + 1) * (B / A - 1) = ((n + 1) * B - (n + 1) * A) / A := by grind
  rw [this, e2]
  grind
theorem fld2 {t A P : Rat} (hA : 0 < A) : t / A * (P * A) = t * P := by
  have h : A ≠ 0 := by grind
  grind
theorem fld3 {A B : Rat} (hA : 0 < A) : B / A * A = B := by
  have h : A ≠ 0 := by grind
  grind
def pr : List Rat → Rat
  | [] => 1
  | t :: r => t * pr r
def sm : List Rat → Rat
  | [] => 0
  | t :: r => (t - 1) + sm r
theorem pr_append (a b : List Rat) : pr (a ++ b) = pr a * pr b := by
  induction a with
  | nil => simp [pr, Rat.one_mul]
  | cons t r ih => simp only [List.cons_append, pr, ih]; grind
theorem sm_append (a b : List Rat) : sm (a ++ b) = sm a + sm b := by
  induction a with
  | nil => simp [sm, Rat.zero_add]
  | cons t r ih => simp only [List.cons_append, sm, ih]; grind
theorem pr_pos {a : List Rat} (h : ∀ t ∈ a, 0 < t) : 0 < pr a := by
  induction a with
  | nil => simp only [pr]; decide
  | cons t r ih =>
    simp only [pr]
    exact Rat.mul_pos (h t (by simp)) (ih fun u hu => h u (by simp [hu]))
theorem bern (x : Rat) (hx : -1 ≤ x) : ∀ n : Nat, 1 + n * x ≤ (1 + x) ^ n
  | 0 => by simp only [Rat.pow_zero]; grind
  | n + 1 => by
    have ih := bern x hx n
    have h1 : 0 ≤ ((1 + x) ^ n - (1 + n * x)) * (1 + x) := Rat.mul_nonneg (by grind) (by grind)
    have h2 : 0 ≤ (n : Rat) * (x * x) := by
      exact Rat.mul_nonneg (by exact Rat.natCast_nonneg) (rsq_nonneg x)
    rw [Rat.pow_succ]
    push_cast
    grind
theorem rpow_pos {x : Rat} (h : 0 < x) (n : Nat) : 0 < x ^ n := Rat.pow_pos h
/-- the mean of a list, to its length, is no less than the product -/
theorem amgm1 (a : List Rat) (h : ∀ t ∈ a, 0 < t) (hn : a ≠ []) : pr a ≤ (1 + sm a / a.length) ^ a.length ∧ 0 < 1 + sm a / a.length := by
  induction a with
  | nil => exact absurd rfl hn
  | cons t r ih =>
    by_cases hr : r = []
    · subst hr
      simp only [pr, sm, List.length_cons, List.length_nil, Rat.pow_succ, Rat.pow_zero]
      have := h t (by simp)
      push_cast
      constructor <;> grind
    · obtain ⟨ih1, ih2⟩ := ih (fun u hu => h u (by simp [hu])) hr
      have ht := h t (by simp)
      have hl : 0 < r.length := by
        cases r with
        | nil => exact absurd rfl hr
        | cons => simp
      have hlq : (0 : Rat) < r.length := by exact_mod_cast hl
      -- A: the mean of r, B: the mean of all; (n + 1) B = n A + t
      generalize hA : 1 + sm r / r.length = A at *
      have e1 : sm r = r.length * (A - 1) := by
        rw [← hA]; grind
      simp only [pr, sm, List.length_cons]
      generalize hB : 1 + (t - 1 + sm r) / ((r.length + 1 : Nat) : Rat) = B
      have hnq : (0 : Rat) < ((r.length + 1 : Nat) : Rat) := by push_cast; grind
      have e2 : ((r.length + 1 : Nat) : Rat) * B = r.length * A + t := by
        rw [← hB, e1]
        have : ((r.length + 1 : Nat) : Rat) * (1 + (t - 1 + r.length * (A - 1)) / ((r.length + 1 : Nat) : Rat)) = ((r.length + 1 : Nat) : Rat) + (t - 1 + r.length * (A - 1)) := by grind
        rw [this]; push_cast; grind
      have hB0 : 0 < B := by
        have h1 : 0 < r.length * A + t := by
          have := Rat.mul_pos hlq ih2; grind
        rw [← e2] at h1
        rcases rlt_or_le 0 B with h2 | h2
        · exact h2
        · exfalso
          have := Rat.mul_nonneg (Rat.le_of_lt hnq) (show 0 ≤ -B by grind)
          grind
      refine ⟨?_, hB0⟩
      -- (B / A)^(n+1) ≥ 1 + (n+1) (B/A - 1) = t / A
      have b1 := bern (B / A - 1) (by
        have : 0 < B / A := by rw [Rat.div_def]; exact Rat.mul_pos hB0 (Rat.inv_pos.mpr ih2)
        grind) (r.length + 1)
      have e3 : 1 + ((r.length + 1 : Nat) : Rat) * (B / A - 1) = t / A := by
        push_cast at e2 ⊢
        exact fld1 ih2 e2
      rw [e3, show 1 + (B / A - 1) = B / A by grind] at b1
      have hAn := rpow_pos ih2 r.length
      have hAn1 := rpow_pos ih2 (r.length + 1)
      have e4 : (B / A) ^ (r.length + 1) * A ^ (r.length + 1) = B ^ (r.length + 1) := by
        rw [← rmul_pow, fld3 ih2]
      have b2 := Rat.mul_le_mul_of_nonneg_right b1 (Rat.le_of_lt hAn1)
      rw [e4] at b2
      have e5 : t / A * A ^ (r.length + 1) = t * A ^ r.length := by rw [Rat.pow_succ]; exact fld2 ih2
      rw [e5] at b2
      have b3 := Rat.mul_le_mul_of_nonneg_left ih1 (Rat.le_of_lt ht)
      grind
theorem amgm (a : List Rat) (h : ∀ t ∈ a, 0 < t) (h1 : 1 ≤ pr a) : 0 ≤ sm a := by
  by_cases hr : a = []
  · subst hr; simp [sm]
  · obtain ⟨h2, h3⟩ := amgm1 a h hr
    have hl : 0 < a.length := by
      cases a with
      | nil => exact absurd rfl hr
      | cons => simp
    have hlq : (0 : Rat) < a.length := by exact_mod_cast hl
    rcases rlt_or_le (sm a) 0 with h4 | h4
    · exfalso
      have h5 : 1 + sm a / a.length < 1 := by
        have : sm a / a.length < 0 := by
          rw [Rat.div_lt_iff hlq]; grind
        grind
      have h6 : (1 + sm a / a.length) ^ a.length < 1 := by
        generalize 1 + sm a / (a.length : Rat) = A at *
        have key : ∀ n : Nat, 0 < n → A ^ n < 1 := by
          intro n
          induction n with
          | zero => intro h; omega
          | succ n ih =>
            intro _
            rcases Nat.eq_zero_or_pos n with e | e
            · subst e; rw [Rat.pow_succ, Rat.pow_zero]; grind
            · have := ih e
              have hp := rpow_pos h3 n
              have h7 := Rat.mul_lt_mul_of_pos_left h5 hp
              rw [Rat.pow_succ]; grind
        exact key _ hl
      grind
    · exact h4

/-- r ≤ log q, up to every e -/
def Lg (r q : Rat) : Prop := ∀ e : Rat, 0 < e → ∃ a : List Rat, (∀ t ∈ a, 0 < t) ∧ 1 ≤ q * pr a ∧ r - e ≤ -sm a
/-- log q ≤ r, up to every e -/
def Ug (r q : Rat) : Prop := ∀ e : Rat, 0 < e → ∃ a : List Rat, (∀ t ∈ a, 0 < t) ∧ q ≤ pr a ∧ sm a ≤ r + e
theorem Lg.le {r s q : Rat} (h : Lg r q) (k : Ug s q) : r ≤ s := by
  rcases rlt_or_le s r with h1 | h1
  · exfalso
    obtain ⟨a, a1, a2, a3⟩ := h ((r - s) / 4) (by grind)
    obtain ⟨b, b1, b2, b3⟩ := k ((r - s) / 4) (by grind)
    have h2 : 1 ≤ pr (a ++ b) := by
      rw [pr_append]
      have := Rat.mul_le_mul_of_nonneg_right b2 (Rat.le_of_lt (pr_pos a1))
      grind
    have h3 := amgm (a ++ b) (by intro t ht; rcases List.mem_append.mp ht with h | h; exact a1 t h; exact b1 t h) h2
    rw [sm_append] at h3
    grind
  · exact h1
theorem Lg.add {r s q t : Rat} (h : Lg r q) (k : Lg s t) : Lg (r + s) (q * t) := by
  intro e he
  obtain ⟨a, a1, a2, a3⟩ := h (e / 2) (by grind)
  obtain ⟨b, b1, b2, b3⟩ := k (e / 2) (by grind)
  refine ⟨a ++ b, by intro t ht; rcases List.mem_append.mp ht with h | h; exact a1 t h; exact b1 t h, ?_, ?_⟩
  · rw [pr_append]
    have h1 : 0 ≤ t * pr b - 1 := by grind
    have h2 : 0 ≤ q * pr a - 1 := by grind
    have := Rat.mul_nonneg h1 h2
    grind
  · rw [sm_append]; grind
theorem Ug.add {r s q t : Rat} (ht : 0 < t) (h : Ug r q) (k : Ug s t) : Ug (r + s) (q * t) := by
  intro e he
  obtain ⟨a, a1, a2, a3⟩ := h (e / 2) (by grind)
  obtain ⟨b, b1, b2, b3⟩ := k (e / 2) (by grind)
  refine ⟨a ++ b, by intro t ht; rcases List.mem_append.mp ht with h | h; exact a1 t h; exact b1 t h, ?_, ?_⟩
  · rw [pr_append]
    have h1 := Rat.mul_nonneg (show 0 ≤ pr a - q by grind) (Rat.le_of_lt ht)
    have h2 := Rat.mul_nonneg (Rat.le_of_lt (pr_pos a1)) (show 0 ≤ pr b - t by grind)
    grind
  · rw [sm_append]; grind
theorem Lg.mono {r s q t : Rat} (h : Lg r q) (hs : s ≤ r) (hq : q ≤ t) : Lg s t := by
  intro e he
  obtain ⟨a, a1, a2, a3⟩ := h e he
  refine ⟨a, a1, ?_, by grind⟩
  have := Rat.mul_le_mul_of_nonneg_right hq (Rat.le_of_lt (pr_pos a1))
  grind
theorem Ug.mono {r s q t : Rat} (h : Ug r q) (hs : r ≤ s) (hq : t ≤ q) : Ug s t := by
  intro e he
  obtain ⟨a, a1, a2, a3⟩ := h e he
  exact ⟨a, a1, by grind, by grind⟩
theorem Lg.lim {r q : Rat} (h : ∀ e : Rat, 0 < e → Lg (r - e) q) : Lg r q := by
  intro e he
  obtain ⟨a, a1, a2, a3⟩ := h (e / 2) (by grind) (e / 2) (by grind)
  exact ⟨a, a1, a2, by grind⟩
theorem Ug.lim {r q : Rat} (h : ∀ e : Rat, 0 < e → Ug (r + e) q) : Ug r q := by
  intro e he
  obtain ⟨a, a1, a2, a3⟩ := h (e / 2) (by grind) (e / 2) (by grind)
  exact ⟨a, a1, a2, by grind⟩
/-- 1 - t ≤ log q where 1 / t ≤ q -/
theorem Lg.basic {t q : Rat} (ht : 0 < t) (h : 1 ≤ q * t) : Lg (1 - t) q := by
  intro e he
  refine ⟨[t], by simpa using ht, by simpa [pr, Rat.mul_one] using h, ?_⟩
  simp only [sm]; grind
theorem Ug.basic {q : Rat} (hq : 0 < q) : Ug (q - 1) q := by
  intro e he
  refine ⟨[q], by simpa using hq, ?_, ?_⟩
  · simp only [pr]; grind
  · simp only [sm]; grind
theorem Lg.zero : Lg 0 1 := (Lg.basic (t := 1) (q := 1) (by grind) (by grind)).mono (by grind) (by grind)
theorem Ug.zero : Ug 0 1 := (Ug.basic (q := 1) (by grind)).mono (by grind) (by grind)
theorem Lg.pow {r q : Rat} (h : Lg r q) : ∀ n : Nat, Lg (n * r) (q ^ n)
  | 0 => Lg.zero.mono (by simp [Rat.zero_mul]) (by simp [Rat.pow_zero])
  | n + 1 => by
    refine (Lg.add (Lg.pow h n) h).mono ?_ ?_
    · push_cast; grind
    · rw [Rat.pow_succ]; grind
theorem Ug.pow {r q : Rat} (hq : 0 < q) (h : Ug r q) : ∀ n : Nat, Ug (n * r) (q ^ n)
  | 0 => Ug.zero.mono (by simp [Rat.zero_mul]) (by simp [Rat.pow_zero])
  | n + 1 => by
    refine (Ug.add hq (Ug.pow hq h n) h).mono ?_ ?_
    · push_cast; grind
    · rw [Rat.pow_succ]; grind
end Mine

end
section
namespace Mine
theorem Lg.inv {r q : Rat} (hq : 0 < q) (h : Lg r q) : Ug (-r) q⁻¹ := by
  intro e he
  obtain ⟨a, a1, a2, a3⟩ := h e he
  refine ⟨a, a1, ?_, by grind⟩
  have h1 := Rat.mul_le_mul_of_nonneg_right a2 (Rat.le_of_lt (Rat.inv_pos.mpr hq))
  have h2 : q * pr a * q⁻¹ = pr a := by grind
  grind
theorem Ug.inv {r q : Rat} (hq : 0 < q) (h : Ug r q) : Lg (-r) q⁻¹ := by
  intro e he
  obtain ⟨a, a1, a2, a3⟩ := h e he
  refine ⟨a, a1, ?_, by grind⟩
  have h1 := Rat.mul_le_mul_of_nonneg_right a2 (Rat.le_of_lt (Rat.inv_pos.mpr hq))
  have h2 : q * q⁻¹ = 1 := by grind
  grind
theorem arch (x : Rat) : ∃ n : Nat, 0 < n ∧ x ≤ n := by
  refine ⟨(x.floor + 1).toNat + 1, by omega, ?_⟩
  have h := Rat.lt_floor (x := x)
  have h2 : x.floor + 1 ≤ (((x.floor + 1).toNat + 1 : Nat) : Int) := by omega
  have h3 : ((x.floor + 1 : Int) : Rat) ≤ ((((x.floor + 1).toNat + 1 : Nat) : Int) : Rat) := Rat.intCast_le_intCast.mpr h2
  rw [Rat.intCast_natCast] at h3
  have h4 : ((x.floor + 1 : Int) : Rat) = (x.floor : Rat) + 1 := by push_cast; rfl
  grind
theorem rdiv_pos {a b : Rat} (ha : 0 < a) (hb : 0 < b) : 0 < a / b := by
  rw [Rat.div_def]; exact Rat.mul_pos ha (Rat.inv_pos.mpr hb)
theorem rdiv_mul {a b c : Rat} (hb : 0 < b) : a / b * (b / c) = a / c := by
  have : b ≠ 0 := by grind
  by_cases hc : c = 0
  · subst hc; simp [Rat.div_def]
  · grind
/-- the step's size -/
theorem small_step {C d e : Rat} (hC : 0 ≤ C) (he : 0 < e) : ∃ n : Nat, 0 < n ∧ n * (C * ((d / n) * (d / n))) ≤ e := by
  obtain ⟨n, hn, h⟩ := arch (C * (d * d) / e)
  refine ⟨n, hn, ?_⟩
  have hq : (0 : Rat) < n := by exact_mod_cast hn
  have e1 : n * (C * ((d / n) * (d / n))) = C * (d * d) / n := by
    have : (n : Rat) ≠ 0 := by grind
    grind
  rw [e1]
  have h1 : C * (d * d) / e * e = C * (d * d) := fld3 he
  have h2 := Rat.mul_le_mul_of_nonneg_right h (Rat.le_of_lt he)
  rw [h1] at h2
  rcases rlt_or_le e (C * (d * d) / n) with h3 | h3
  · exfalso
    have h4 := Rat.mul_lt_mul_of_pos_right h3 hq
    rw [fld3 hq] at h4
    grind
  · exact h3
section
variable {F G : Rat → Rat} {a b C : Rat}
theorem pt_in {a b : Rat} {n i : Nat} (hab : a ≤ b) (hn : 0 < n) (hi : i ≤ n) : a ≤ a + i * ((b - a) / n) ∧ a + i * ((b - a) / n) ≤ b := by
  have hq : (0 : Rat) < n := by exact_mod_cast hn
  have hi0 : (0 : Rat) ≤ i := Rat.natCast_nonneg
  have hin : (i : Rat) ≤ n := by exact_mod_cast hi
  have hd : 0 ≤ (b - a) / n := by
    rw [Rat.div_def]; exact Rat.mul_nonneg (by grind) (Rat.le_of_lt (Rat.inv_pos.mpr hq))
  have h1 := Rat.mul_nonneg hi0 hd
  have h2 := Rat.mul_nonneg (show (0 : Rat) ≤ n - i by grind) hd
  have h3 : n * ((b - a) / n) = b - a := by
    have : (n : Rat) ≠ 0 := by grind
    grind
  constructor
  · grind
  · grind
theorem Lg.along (hab : a ≤ b) (hC : 0 ≤ C) (hG : ∀ x, a ≤ x → x ≤ b → 0 < G x)
    (h : ∀ x y, a ≤ x → x ≤ y → y ≤ b → F y - F x ≤ 1 - G x / G y + C * ((y - x) * (y - x))) : Lg (F b - F a) (G b / G a) := by
  refine Lg.lim fun e he => ?_
  obtain ⟨n, hn, hs⟩ := small_step (d := b - a) hC he
  have hq : (0 : Rat) < n := by exact_mod_cast hn
  have ha0 := hG a Rat.le_refl hab
  have key : ∀ i : Nat, i ≤ n → Lg (F (a + i * ((b - a) / n)) - F a - i * (C * (((b - a) / n) * ((b - a) / n)))) (G (a + i * ((b - a) / n)) / G a) := by
    intro i
    induction i with
    | zero =>
      intro _
      have e0 : a + ((0 : Nat) : Rat) * ((b - a) / n) = a := by push_cast; grind
      rw [e0]
      refine Lg.zero.mono ?_ ?_
      · push_cast; grind
      · have : G a / G a = 1 := by have : G a ≠ 0 := by grind
                                   grind
        grind
    | succ i ih =>
      intro hi
      have ih := ih (by omega)
      have p0 := pt_in hab hn (show i ≤ n by omega)
      have p1 := pt_in hab hn hi
      have e1 : a + ((i + 1 : Nat) : Rat) * ((b - a) / n) = (a + i * ((b - a) / n)) + (b - a) / n := by push_cast; grind
      have hd : 0 ≤ (b - a) / n := by
        rw [Rat.div_def]; exact Rat.mul_nonneg (by grind) (Rat.le_of_lt (Rat.inv_pos.mpr hq))
      rw [e1] at p1 ⊢
      generalize hx : a + (i : Rat) * ((b - a) / n) = x at *
      generalize hdd : (b - a) / n = d at *
      have g0 := hG x p0.1 p0.2
      have g1 := hG (x + d) p1.1 p1.2
      have st := h x (x + d) p0.1 (by grind) p1.2
      have bs := Lg.basic (t := G x / G (x + d)) (q := G (x + d) / G x) (rdiv_pos g0 g1) (by
        rw [rdiv_mul g0]
        have : G (x + d) / G (x + d) = 1 := by have : G (x + d) ≠ 0 := by grind
                                               grind
        grind)
      refine (Lg.add bs ih).mono ?_ ?_
      · push_cast; grind
      · rw [rdiv_mul g0]; grind
  have k := key n (Nat.le_refl n)
  have e2 : a + (n : Rat) * ((b - a) / n) = b := by
    have : (n : Rat) ≠ 0 := by grind
    grind
  rw [e2] at k
  exact k.mono (by grind) (by grind)
theorem Ug.along (hab : a ≤ b) (hC : 0 ≤ C) (hG : ∀ x, a ≤ x → x ≤ b → 0 < G x)
    (h : ∀ x y, a ≤ x → x ≤ y → y ≤ b → G y / G x - 1 ≤ F y - F x + C * ((y - x) * (y - x))) : Ug (F b - F a) (G b / G a) := by
  refine Ug.lim fun e he => ?_
  obtain ⟨n, hn, hs⟩ := small_step (d := b - a) hC he
  have hq : (0 : Rat) < n := by exact_mod_cast hn
  have ha0 := hG a Rat.le_refl hab
  have key : ∀ i : Nat, i ≤ n → Ug (F (a + i * ((b - a) / n)) - F a + i * (C * (((b - a) / n) * ((b - a) / n)))) (G (a + i * ((b - a) / n)) / G a) := by
    intro i
    induction i with
    | zero =>
      intro _
      have e0 : a + ((0 : Nat) : Rat) * ((b - a) / n) = a := by push_cast; grind
      rw [e0]
      refine Ug.zero.mono ?_ ?_
      · push_cast; grind
      · have : G a / G a = 1 := by have : G a ≠ 0 := by grind
                                   grind
        grind
    | succ i ih =>
      intro hi
      have ih := ih (by omega)
      have p0 := pt_in hab hn (show i ≤ n by omega)
      have p1 := pt_in hab hn hi
      have e1 : a + ((i + 1 : Nat) : Rat) * ((b - a) / n) = (a + i * ((b - a) / n)) + (b - a) / n := by push_cast; grind
      have hd : 0 ≤ (b - a) / n := by
        rw [Rat.div_def]; exact Rat.mul_nonneg (by grind) (Rat.le_of_lt (Rat.inv_pos.mpr hq))
      rw [e1] at p1 ⊢
      generalize hx : a + (i : Rat) * ((b - a) / n) = x at *
      generalize hdd : (b - a) / n = d at *
      have g0 := hG x p0.1 p0.2
      have g1 := hG (x + d) p1.1 p1.2
      have st := h x (x + d) p0.1 (by grind) p1.2
      have bs := Ug.basic (q := G (x + d) / G x) (rdiv_pos g1 g0)
      refine (Ug.add (rdiv_pos g0 ha0) bs ih).mono ?_ ?_
      · push_cast; grind
      · rw [rdiv_mul g0]; grind
  have k := key n (Nat.le_refl n)
  have e2 : a + (n : Rat) * ((b - a) / n) = b := by
    have : (n : Rat) ≠ 0 := by grind
    grind
  rw [e2] at k
  exact k.mono (by grind) (by grind)
end
end Mine

end
section
namespace Mine
theorem absmul {x e B : Rat} (h1 : -1 ≤ x) (h2 : x ≤ 1) (h3 : -B ≤ e) (h4 : e ≤ B) : -B ≤ x * e ∧ x * e ≤ B := by
  have a := Rat.mul_nonneg (show 0 ≤ 1 - x by grind) (show 0 ≤ B - e by grind)
  have b := Rat.mul_nonneg (show 0 ≤ 1 - x by grind) (show 0 ≤ B + e by grind)
  have c := Rat.mul_nonneg (show 0 ≤ 1 + x by grind) (show 0 ≤ B - e by grind)
  have d := Rat.mul_nonneg (show 0 ≤ 1 + x by grind) (show 0 ≤ B + e by grind)
  constructor <;> grind
theorem abspow {y z : Rat} (h0 : 0 ≤ y) (h1 : -y ≤ z) (h2 : z ≤ y) : ∀ n : Nat, -(y ^ n) ≤ z ^ n ∧ z ^ n ≤ y ^ n ∧ 0 ≤ y ^ n
  | 0 => by simp only [Rat.pow_zero]; grind
  | n + 1 => by
    obtain ⟨a, b, c⟩ := abspow h0 h1 h2 n
    rw [Rat.pow_succ, Rat.pow_succ]
    have k1 := Rat.mul_nonneg (show 0 ≤ y ^ n - z ^ n by grind) (show 0 ≤ y - z by grind)
    have k2 := Rat.mul_nonneg (show 0 ≤ y ^ n - z ^ n by grind) (show 0 ≤ y + z by grind)
    have k3 := Rat.mul_nonneg (show 0 ≤ y ^ n + z ^ n by grind) (show 0 ≤ y - z by grind)
    have k4 := Rat.mul_nonneg (show 0 ≤ y ^ n + z ^ n by grind) (show 0 ≤ y + z by grind)
    have k5 := Rat.mul_nonneg c h0
    refine ⟨?_, ?_, k5⟩ <;> grind
theorem one_rpow : ∀ n : Nat, (1 : Rat) ^ n = 1
  | 0 => Rat.pow_zero ..
  | n + 1 => by rw [Rat.pow_succ, one_rpow n, Rat.mul_one]
theorem abspow1 {z : Rat} (h1 : -1 ≤ z) (h2 : z ≤ 1) (n : Nat) : -1 ≤ z ^ n ∧ z ^ n ≤ 1 := by
  have := abspow (y := 1) (by grind) h1 h2 n
  rw [one_rpow] at this
  exact ⟨this.1, this.2.1⟩
/-- the tangent of a power -/
theorem pdiff {x y : Rat} (hx1 : -1 ≤ x) (hx2 : x ≤ 1) (hy1 : -1 ≤ y) (hy2 : y ≤ 1) : ∀ k : Nat,
    -(((k : Rat) + 1) * (k + 1) * ((x - y) * (x - y))) ≤ x ^ (k + 1) - y ^ (k + 1) - (k + 1) * y ^ k * (x - y) ∧ x ^ (k + 1) - y ^ (k + 1) - (k + 1) * y ^ k * (x - y) ≤ ((k : Rat) + 1) * (k + 1) * ((x - y) * (x - y))
  | 0 => by
    simp only [Rat.pow_succ, Rat.pow_zero]
    have := rsq_nonneg (x - y)
    push_cast
    constructor <;> grind
  | k + 1 => by
    obtain ⟨a, b⟩ := pdiff hx1 hx2 hy1 hy2 k
    have hd := rsq_nonneg (x - y)
    have hk : (0 : Rat) ≤ k := Rat.natCast_nonneg
    have hy := abspow1 hy1 hy2 k
    have m1 := absmul hx1 hx2 a b
    have m2 := absmul (B := ((k : Rat) + 1) * ((x - y) * (x - y))) (e := ((k : Rat) + 1) * ((x - y) * (x - y))) hy.1 hy.2 (by have := Rat.mul_nonneg (show (0 : Rat) ≤ k + 1 by grind) hd; grind) (by grind)
    have e : x ^ (k + 1 + 1) - y ^ (k + 1 + 1) - (((k + 1 : Nat) : Rat) + 1) * y ^ (k + 1) * (x - y) = x * (x ^ (k + 1) - y ^ (k + 1) - (k + 1) * y ^ k * (x - y)) + y ^ k * (((k : Rat) + 1) * ((x - y) * (x - y))) := by
      rw [Rat.pow_succ x (k + 1), Rat.pow_succ y (k + 1), Rat.pow_succ y k]
      push_cast
      generalize x ^ (k + 1) = X
      generalize y ^ k = Y
      grind
    rw [e]
    have h1 := Rat.mul_nonneg (show (0 : Rat) ≤ k + 1 by grind) hd
    have h2 : (((k + 1 : Nat) : Rat) + 1) * (((k + 1 : Nat) : Rat) + 1) * ((x - y) * (x - y)) = ((k : Rat) + 1) * (k + 1) * ((x - y) * (x - y)) + ((k : Rat) + 1) * ((x - y) * (x - y)) + ((k : Rat) + 1) * ((x - y) * (x - y)) + (x - y) * (x - y) := by push_cast; grind
    rw [h2]
    generalize (x - y) * (x - y) = d at *
    generalize x * (x ^ (k + 1) - y ^ (k + 1) - (k + 1) * y ^ k * (x - y)) = U at *
    generalize y ^ k * (((k : Rat) + 1) * d) = V at *
    constructor <;> grind
/-- the series of log (1 + v) -/
def lgS (v : Rat) : Nat → Rat
  | 0 => 0
  | k + 1 => lgS v k - (-v) ^ (k + 1) / (k + 1)
/-- its slope -/
def lgD (v : Rat) : Nat → Rat
  | 0 => 0
  | k + 1 => lgD v k + (-v) ^ k
theorem lgD_eq (v : Rat) : ∀ T : Nat, (1 + v) * lgD v T = 1 - (-v) ^ T
  | 0 => by simp only [lgD, Rat.pow_zero]; grind
  | T + 1 => by
    have := lgD_eq v T
    simp only [lgD, Rat.pow_succ]; grind
theorem lgS_diff {x y : Rat} (hx1 : -1 ≤ x) (hx2 : x ≤ 1) (hy1 : -1 ≤ y) (hy2 : y ≤ 1) : ∀ T : Nat,
    -((T : Rat) * T * ((x - y) * (x - y))) ≤ lgS y T - lgS x T - lgD y T * (y - x) ∧ lgS y T - lgS x T - lgD y T * (y - x) ≤ (T : Rat) * T * ((x - y) * (x - y))
  | 0 => by
    simp only [lgS, lgD]; push_cast; constructor <;> grind
  | T + 1 => by
    obtain ⟨a, b⟩ := lgS_diff hx1 hx2 hy1 hy2 T
    obtain ⟨c, d⟩ := pdiff (x := -x) (y := -y) (by grind) (by grind) (by grind) (by grind) T
    have hT : (0 : Rat) ≤ T := Rat.natCast_nonneg
    have hd := rsq_nonneg (x - y)
    simp only [lgS, lgD]
    have e1 : (-x - -y) * (-x - -y) = (x - y) * (x - y) := by grind
    rw [e1] at c d
    have e2 : lgS y T - (-y) ^ (T + 1) / (T + 1) - (lgS x T - (-x) ^ (T + 1) / (T + 1)) - (lgD y T + (-y) ^ T) * (y - x) = (lgS y T - lgS x T - lgD y T * (y - x)) + ((-x) ^ (T + 1) - (-y) ^ (T + 1) - (T + 1) * (-y) ^ T * (-x - -y)) / (T + 1) := by
      have : (T : Rat) + 1 ≠ 0 := by grind
      grind
    rw [e2]
    generalize lgS y T - lgS x T - lgD y T * (y - x) = U at *
    generalize (-x) ^ (T + 1) - (-y) ^ (T + 1) - (T + 1) * (-y) ^ T * (-x - -y) = V at *
    generalize (x - y) * (x - y) = D at *
    have h1 : V / ((T : Rat) + 1) ≤ ((T : Rat) + 1) * D := by
      have : V / ((T : Rat) + 1) * ((T : Rat) + 1) = V := fld3 (by grind)
      rcases rlt_or_le (((T : Rat) + 1) * D) (V / ((T : Rat) + 1)) with h | h
      · have := Rat.mul_lt_mul_of_pos_right h (show (0 : Rat) < T + 1 by grind)
        grind
      · exact h
    have h2 : -(((T : Rat) + 1) * D) ≤ V / ((T : Rat) + 1) := by
      have : V / ((T : Rat) + 1) * ((T : Rat) + 1) = V := fld3 (by grind)
      rcases rlt_or_le (V / ((T : Rat) + 1)) (-(((T : Rat) + 1) * D)) with h | h
      · have := Rat.mul_lt_mul_of_pos_right h (show (0 : Rat) < T + 1 by grind)
        grind
      · exact h
    have h3 := Rat.mul_nonneg hT hd
    push_cast
    constructor <;> grind
end Mine

end
section
namespace Mine
theorem rdiv_le {a b c : Rat} (hb : 0 < b) (h : a ≤ c * b) : a / b ≤ c := by
  rcases rlt_or_le c (a / b) with h1 | h1
  · exfalso
    have := Rat.mul_lt_mul_of_pos_right h1 hb
    rw [fld3 hb] at this
    grind
  · exact h1
theorem le_rdiv {a b c : Rat} (hb : 0 < b) (h : c * b ≤ a) : c ≤ a / b := by
  rcases rlt_or_le (a / b) c with h1 | h1
  · exfalso
    have := Rat.mul_lt_mul_of_pos_right h1 hb
    rw [fld3 hb] at this
    grind
  · exact h1
section
variable {s u : Rat}
/-- F' of the lower and the upper function -/
theorem tay_pt {s y : Rat} (hs : s = 1 ∨ s = -1) (h0 : 0 ≤ y) (h1 : 2 * y ≤ 1) (T : Nat) :
    (s * lgD (s * y) T - 2 * y ^ T) * (1 + s * y) ≤ s ∧ s ≤ (s * lgD (s * y) T + 2 * y ^ T) * (1 + s * y) := by
  have e := lgD_eq (s * y) T
  have hz : -y ≤ -(s * y) ∧ -(s * y) ≤ y := by rcases hs with h | h <;> subst h <;> constructor <;> grind
  obtain ⟨a, b, c⟩ := abspow h0 hz.1 hz.2 T
  have hg : (1 : Rat) ≤ 2 * (1 + s * y) := by rcases hs with h | h <;> subst h <;> grind
  have k := Rat.mul_nonneg c (show (0 : Rat) ≤ 2 * (1 + s * y) - 1 by grind)
  have e1 : s * lgD (s * y) T * (1 + s * y) = s - s * (-(s * y)) ^ T := by
    have : s * lgD (s * y) T * (1 + s * y) = s * ((1 + s * y) * lgD (s * y) T) := by grind
    rw [this, e]; grind
  generalize (-(s * y)) ^ T = Z at *
  generalize y ^ T = Y at *
  generalize lgD (s * y) T = D at *
  rcases hs with h | h <;> subst h <;> constructor <;> grind
/-- lower and upper function -/
def tayF (s σ : Rat) (T : Nat) (x : Rat) : Rat := lgS (s * x) T + σ * (2 * x ^ (T + 1) / (T + 1))
theorem tayF_diff {s σ x y : Rat} (hs : s = 1 ∨ s = -1) (hσ : σ = 1 ∨ σ = -1) (hx0 : 0 ≤ x) (hx1 : x ≤ 1) (hy0 : 0 ≤ y) (hy1 : y ≤ 1) (T : Nat) :
    -(((T : Rat) * T + 2 * (T + 1)) * ((y - x) * (y - x))) ≤ tayF s σ T y - tayF s σ T x - (s * lgD (s * y) T + σ * (2 * y ^ T)) * (y - x) ∧
    tayF s σ T y - tayF s σ T x - (s * lgD (s * y) T + σ * (2 * y ^ T)) * (y - x) ≤ (((T : Rat) * T + 2 * (T + 1)) * ((y - x) * (y - x))) := by
  obtain ⟨a, b⟩ := lgS_diff (x := s * x) (y := s * y) (by rcases hs with h | h <;> subst h <;> grind) (by rcases hs with h | h <;> subst h <;> grind) (by rcases hs with h | h <;> subst h <;> grind) (by rcases hs with h | h <;> subst h <;> grind) T
  obtain ⟨c, d⟩ := pdiff (x := x) (y := y) (by grind) (by grind) (by grind) (by grind) T
  have hT : (0 : Rat) ≤ T := Rat.natCast_nonneg
  have e0 : (s * x - s * y) * (s * x - s * y) = (y - x) * (y - x) := by rcases hs with h | h <;> subst h <;> grind
  have e0' : (x - y) * (x - y) = (y - x) * (y - x) := by grind
  rw [e0] at a b
  rw [e0'] at c d
  unfold tayF
  have e1 : lgS (s * y) T + σ * (2 * y ^ (T + 1) / (T + 1)) - (lgS (s * x) T + σ * (2 * x ^ (T + 1) / (T + 1))) - (s * lgD (s * y) T + σ * (2 * y ^ T)) * (y - x)
      = (lgS (s * y) T - lgS (s * x) T - lgD (s * y) T * (s * y - s * x)) - σ * (2 * ((x ^ (T + 1) - y ^ (T + 1) - (T + 1) * y ^ T * (x - y)) / (T + 1))) := by
    have : (T : Rat) + 1 ≠ 0 := by grind
    grind
  rw [e1]
  generalize lgS (s * y) T - lgS (s * x) T - lgD (s * y) T * (s * y - s * x) = U at *
  generalize x ^ (T + 1) - y ^ (T + 1) - (T + 1) * y ^ T * (x - y) = V at *
  generalize (y - x) * (y - x) = D at *
  have h1 : V / ((T : Rat) + 1) ≤ ((T : Rat) + 1) * D := rdiv_le (by grind) (by grind)
  have h2 : -(((T : Rat) + 1) * D) ≤ V / ((T : Rat) + 1) := le_rdiv (by grind) (by grind)
  generalize V / ((T : Rat) + 1) = W at *
  rcases hσ with h | h <;> subst h <;> constructor <;> grind
theorem tay_lo (hs : s = 1 ∨ s = -1) (h0 : 0 ≤ u) (h1 : 2 * u ≤ 1) (T : Nat) : Lg (lgS (s * u) T - 2 * u ^ (T + 1) / (T + 1)) (1 + s * u) := by
  have hT : (0 : Rat) ≤ T := Rat.natCast_nonneg
  have key := Lg.along (F := tayF s (-1) T) (G := fun x => 1 + s * x) (a := 0) (b := u) (C := (T : Rat) * T + 2 * (T + 1)) h0 (by have := Rat.mul_nonneg hT hT; grind)
    (by intro x hx hx2; rcases hs with h | h <;> subst h <;> grind) (by
      intro x y hx hxy hy
      have hp := (tay_pt hs (y := y) (by grind) (by grind) T).1
      have hd := (tayF_diff (σ := -1) hs (Or.inr rfl) hx (by grind) (show 0 ≤ y by grind) (by grind) T).2
      have g : 0 < 1 + s * y := by rcases hs with h | h <;> subst h <;> grind
      have e : 1 - (1 + s * x) / (1 + s * y) = s / (1 + s * y) * (y - x) := by
        have : 1 + s * y ≠ 0 := by grind
        grind
      have h2 : s * lgD (s * y) T - 2 * y ^ T ≤ s / (1 + s * y) := le_rdiv g hp
      have h3 := Rat.mul_nonneg (show 0 ≤ s / (1 + s * y) - (s * lgD (s * y) T - 2 * y ^ T) by grind) (show 0 ≤ y - x by grind)
      show _ ≤ 1 - (1 + s * x) / (1 + s * y) + _
      rw [e]
      generalize s / (1 + s * y) = A at *
      generalize lgD (s * y) T = B at *
      grind)
  refine key.mono ?_ ?_
  · unfold tayF
    have e0 : lgS (s * 0) T = 0 := by
      rw [Rat.mul_zero]
      have : ∀ T, lgS 0 T = 0 := by
        intro T
        induction T with
        | zero => rfl
        | succ T ih => simp only [lgS, ih, Rat.pow_succ]; grind
      exact this T
    rw [e0, show (0 : Rat) ^ (T + 1) = 0 by rw [Rat.pow_succ, Rat.mul_zero]]
    grind
  · have : (1 + s * u) / (1 + s * 0) = 1 + s * u := by rw [Rat.mul_zero]; grind
    show (1 + s * u) / (1 + s * 0) ≤ _
    rw [this]
    grind
theorem tay_hi (hs : s = 1 ∨ s = -1) (h0 : 0 ≤ u) (h1 : 2 * u ≤ 1) (T : Nat) : Ug (lgS (s * u) T + 2 * u ^ (T + 1) / (T + 1)) (1 + s * u) := by
  have hT : (0 : Rat) ≤ T := Rat.natCast_nonneg
  have key := Ug.along (F := tayF s 1 T) (G := fun x => 1 + s * x) (a := 0) (b := u) (C := (T : Rat) * T + 2 * (T + 1) + 4) h0 (by have := Rat.mul_nonneg hT hT; grind)
    (by intro x hx hx2; rcases hs with h | h <;> subst h <;> grind) (by
      intro x y hx hxy hy
      have hp := (tay_pt hs (y := y) (by grind) (by grind) T).2
      have hd := (tayF_diff (σ := 1) hs (Or.inl rfl) hx (by grind) (show 0 ≤ y by grind) (by grind) T).1
      have g : 0 < 1 + s * y := by rcases hs with h | h <;> subst h <;> grind
      have g' : 0 < 1 + s * x := by rcases hs with h | h <;> subst h <;> grind
      have gb : (1 : Rat) ≤ 2 * (1 + s * y) := by rcases hs with h | h <;> subst h <;> grind
      have gb' : (1 : Rat) ≤ 2 * (1 + s * x) := by rcases hs with h | h <;> subst h <;> grind
      have e : (1 + s * y) / (1 + s * x) - 1 = s / (1 + s * x) * (y - x) := by
        have : 1 + s * x ≠ 0 := by grind
        grind
      have h2 : s / (1 + s * y) ≤ s * lgD (s * y) T + 2 * y ^ T := rdiv_le g hp
      have h3 := Rat.mul_nonneg (show 0 ≤ (s * lgD (s * y) T + 2 * y ^ T) - s / (1 + s * y) by grind) (show 0 ≤ y - x by grind)
      have h4 : s / (1 + s * x) ≤ s / (1 + s * y) + 4 * (y - x) := by
        refine rdiv_le g' ?_
        have e5 : s / (1 + s * y) * (1 + s * x) = s - s / (1 + s * y) * (s * (y - x)) := by
          have : 1 + s * y ≠ 0 := by grind
          grind
        have e6 : s / (1 + s * y) * (s * (y - x)) = (y - x) / (1 + s * y) := by
          have : 1 + s * y ≠ 0 := by grind
          rcases hs with h | h <;> subst h <;> grind
        have e7 : (y - x) / (1 + s * y) ≤ 2 * (y - x) := rdiv_le g (by
          have := Rat.mul_nonneg (show 0 ≤ y - x by grind) (show (0 : Rat) ≤ 2 * (1 + s * y) - 1 by grind)
          grind)
        have e8 := Rat.mul_nonneg (show 0 ≤ y - x by grind) (show (0 : Rat) ≤ 2 * (1 + s * x) - 1 by grind)
        rw [Rat.add_mul, e5, e6]
        grind
      have h5 := Rat.mul_nonneg (show 0 ≤ s / (1 + s * y) + 4 * (y - x) - s / (1 + s * x) by grind) (show 0 ≤ y - x by grind)
      show (1 + s * y) / (1 + s * x) - 1 ≤ _
      rw [e]
      generalize s / (1 + s * y) = A at *
      generalize s / (1 + s * x) = A' at *
      generalize lgD (s * y) T = B at *
      grind)
  refine key.mono ?_ ?_
  · unfold tayF
    have e0 : lgS (s * 0) T = 0 := by
      rw [Rat.mul_zero]
      have : ∀ T, lgS 0 T = 0 := by
        intro T
        induction T with
        | zero => rfl
        | succ T ih => simp only [lgS, ih, Rat.pow_succ]; grind
      exact this T
    rw [e0, show (0 : Rat) ^ (T + 1) = 0 by rw [Rat.pow_succ, Rat.mul_zero]]
    grind
  · have : (1 + s * u) / (1 + s * 0) = 1 + s * u := by rw [Rat.mul_zero]; grind
    show _ ≤ (1 + s * u) / (1 + s * 0)
    rw [this]
    grind
end
end Mine

end
section
open PySem PySem.W PyProof.Rows
section
open PySem PySem.W PyProof.Rows
namespace Mine
/-- fewer than n bits -/
def Fit (n : Nat) (x : Int) : Prop := x.natAbs < 2 ^ n
theorem Fit.mono {n m : Nat} {x : Int} (h : Fit n x) (hm : n ≤ m) : Fit m x :=
  Nat.lt_of_lt_of_le h (Nat.pow_le_pow_right (by decide) hm)
theorem Fit.bits {n : Nat} {x : Int} (h : Fit n x) : Builtin.Int.intBits x ≤ n := by
  unfold Builtin.Int.intBits
  split
  · omega
  · rename_i hx
    have h0 : x.natAbs ≠ 0 := by
      intro e; apply hx; simp; omega
    have := (Nat.log2_lt h0).mpr h
    omega
theorem Fit.mul {n m : Nat} {x y : Int} (hx : Fit n x) (hy : Fit m y) : Fit (n + m) (x * y) := by
  unfold Fit at *
  rw [Int.natAbs_mul, Nat.pow_add]
  exact Nat.mul_lt_mul'' hx hy
theorem Fit.add {n m : Nat} {x y : Int} (hx : Fit n x) (hy : Fit m y) : Fit (n + m + 1) (x + y) := by
  unfold Fit at *
  have h1 : 2 ^ n ≤ 2 ^ (n + m) := Nat.pow_le_pow_right (by decide) (by omega)
  have h2 : 2 ^ m ≤ 2 ^ (n + m) := Nat.pow_le_pow_right (by decide) (by omega)
  have h3 : 2 ^ (n + m + 1) = 2 * 2 ^ (n + m) := by rw [Nat.pow_succ]; omega
  omega
theorem Fit.neg {n : Nat} {x : Int} (hx : Fit n x) : Fit n (-x) := by
  unfold Fit at *; omega
theorem Fit.sub {n m : Nat} {x y : Int} (hx : Fit n x) (hy : Fit m y) : Fit (n + m + 1) (x - y) := by
  rw [Int.sub_eq_add_neg]; exact hx.add hy.neg
theorem Fit.mulOk {n m : Nat} {x y : Int} (hx : Fit n x) (hy : Fit m y) (h : n + m ≤ 1000000) : IntMulOk x y := by
  have h1 := hx.bits
  have h2 := hy.bits
  unfold IntMulOk Builtin.Int.intTooBig
  intro hh
  simp only [Bool.and_eq_true, decide_eq_true_eq] at hh
  have h3 := hh.2
  have : ((bitsLine : Nat) : Int) = 134217728 := by decide +kernel
  rw [this] at h3
  omega
theorem Fit.noPylong {n : Nat} {x y : Int} (hy : Fit n y) (h : n ≤ 9000) : Builtin.divisionGoesByPylong x y = false := by
  refine PyProof.noPylong_of_log2 ?_
  by_cases h0 : y.natAbs = 0
  · rw [h0]; decide +kernel
  · exact (Nat.log2_lt h0).mpr (Fit.mono hy h)
end Mine

end
section
open PySem PySem.W PyProof.Rows
namespace Mine
/-- a call of f with vs gives back an int r with P r, and leaves all as it was -/
abbrev ConI (prog : Program) (w : World) (K : Frag) (p : Program) (loose : List Str) (mean : ExcName → Option Value) (mg mb : Str → Option Value) (d : Nat) (f : Addr) (vs : List Value) (P : Int → Prop) : Prop :=
  ∀ (news : List (Addr × Obj)) (dp un : Nat) (gd : Option (List Code)) (cn : Str) (cs : Scope) (a : Addr) (ccd : Value) (cl : List (Str × Addr)) (outer : List Env) (A₀ : Around) (base h₀ : Heap) (L : Addr) (m : Str → Option Value) (s : Shared) (Q E : Value → Shared → Prop),
    Below A₀ base outer h₀ → Fr h₀ L s.heap m → K.In h₀ → News h₀ L s.heap news → Top p loose mean mg mb h₀ → cs.kind = .function →
    dp + d < recursionLimit → un + 8 * d < cLine →
    (∀ (r : Int) (t : Tok) (h' : Heap) (tk' : Nat), P r → Fr h₀ L h' m → News h₀ L h' news → Q (.int r t) { s with heap := h', toks := tk' }) →
      wpAny (model prog w) (ktrTop dp un gd cn cs L a ccd cl outer) (call (.ref f) vs) Q E s
/-- the same with the very int -/
abbrev ConX (prog : Program) (w : World) (K : Frag) (p : Program) (loose : List Str) (mean : ExcName → Option Value) (mg mb : Str → Option Value) (d : Nat) (f : Addr) (vs : List Value) (r : Int) : Prop :=
  ∀ (news : List (Addr × Obj)) (dp un : Nat) (gd : Option (List Code)) (cn : Str) (cs : Scope) (a : Addr) (ccd : Value) (cl : List (Str × Addr)) (outer : List Env) (A₀ : Around) (base h₀ : Heap) (L : Addr) (m : Str → Option Value) (s : Shared) (Q E : Value → Shared → Prop),
    Below A₀ base outer h₀ → Fr h₀ L s.heap m → K.In h₀ → News h₀ L s.heap news → Top p loose mean mg mb h₀ → cs.kind = .function →
    dp + d < recursionLimit → un + 8 * d < cLine →
    (∀ (t : Tok) (h' : Heap) (tk' : Nat), Fr h₀ L h' m → News h₀ L h' news → Q (.int r t) { s with heap := h', toks := tk' }) →
      wpAny (model prog w) (ktrTop dp un gd cn cs L a ccd cl outer) (call (.ref f) vs) Q E s
theorem con_retI {h₀ h' : Heap} {L : Addr} {m : Str → Option Value} {news news' : List (Addr × Obj)} {s : Shared} {Q : Value → Shared → Prop} {P : Int → Prop} {r : Int} {t : Tok} {tk' : Nat}
   (hret : ∀ (r : Int) (t : Tok) (h' : Heap) (tk' : Nat), P r → Fr h₀ L h' m → News h₀ L h' news → Q (.int r t) { s with heap := h', toks := tk' })
   (hp : P r) (F : Fr h₀ L h' m) (N : News h₀ L h' news') (hs : ∀ p ∈ news, p ∈ news') : Q (.int r t) { s with heap := h', toks := tk' } :=
  hret _ _ _ _ hp F fun p hp => N p (hs p hp)
theorem con_retX {h₀ h' : Heap} {L : Addr} {m : Str → Option Value} {news news' : List (Addr × Obj)} {s : Shared} {Q : Value → Shared → Prop} {x r : Int} {t : Tok} {tk' : Nat}
   (hret : ∀ (t : Tok) (h' : Heap) (tk' : Nat), Fr h₀ L h' m → News h₀ L h' news → Q (.int x t) { s with heap := h', toks := tk' })
   (hp : r = x) (F : Fr h₀ L h' m) (N : News h₀ L h' news') (hs : ∀ p ∈ news, p ∈ news') : Q (.int r t) { s with heap := h', toks := tk' } := by
  subst hp
  exact hret _ _ _ F fun p hp => N p (hs p hp)
/-- nearest of a / b, ties to even -/
def divN (a b : Int) : Int := a / b + (if b < 2 * (a % b) + a / b % 2 then 1 else 0)
theorem divN_walk {a b : Int} (hb : 0 < b) : (a.fdiv b + if decide (b < 2 * a.fmod b + Builtin.bitAnd (a.fdiv b) 1) = true then 1 else 0) = divN a b := by
  unfold divN
  rw [bitAnd_m1, Int.fdiv_eq_ediv_of_nonneg _ (by omega), Int.fmod_eq_emod_of_nonneg _ (by omega)]
  simp
end Mine
namespace Mine
theorem rshN_walk {x : Int} {n : Nat} : (x.fdiv (2 ^ n) + if decide (1 * 2 ^ n < 2 * Builtin.bitAnd x (1 * 2 ^ n - 1) + Builtin.bitAnd (x.fdiv (2 ^ n)) 1) = true then 1 else 0) = divN x (2 ^ n) := by
  have h : (0 : Int) < 2 ^ n := Int.pow_pos (by decide)
  rw [Int.one_mul, kbt_mask, ← divN_walk h, Int.fmod_eq_emod_of_nonneg _ (by omega)]
theorem isq_nonneg (a : Int) : 0 ≤ a * a := by
  rcases Int.le_total 0 a with h | h
  · exact Int.mul_nonneg h h
  · exact Int.mul_nonneg_of_nonpos_of_nonpos h h
/-- one turn of Newton's -/
def sqStep (n a : Int) : Int := (a - (-n) / a) / 2
theorem sqStep_lo {n a : Int} (hn : 0 < n) (ha : 0 < a) : 0 < sqStep n a ∧ n ≤ sqStep n a * sqStep n a + sqStep n a := by
  unfold sqStep
  generalize hq : (-n) / a = q
  have e1 := Int.mul_ediv_add_emod (-n) a
  have e2 := Int.emod_nonneg (-n) (b := a) (by omega)
  have e3 := Int.emod_lt_of_pos (-n) ha
  rw [hq] at e1
  generalize hr : (-n) % a = r at *
  generalize hz : (a - q) / 2 = z
  -- -n = a q + r, 0 ≤ r < a; c := -q ≥ n/a, c ≥ 1
  have hq0 : q < 0 := by
    rcases Int.lt_or_le q 0 with h | h
    · exact h
    · have := Int.mul_nonneg (Int.le_of_lt ha) h; omega
  have hz2 : 2 * z ≤ a - q ∧ a - q ≤ 2 * z + 1 := by omega
  have hz0 : 0 < z := by omega
  refine ⟨hz0, ?_⟩
  -- n ≤ a * (-q), (a - q)^2 ≥ 4 a (-q) ; (2z+1)^2 ≥ (a-q)^2
  have h1 : n ≤ a * (-q) := by have : a * (-q) = -(a * q) := by rw [Int.mul_neg]
                               omega
  have h2 : 4 * (a * (-q)) ≤ (a - q) * (a - q) := by
    have := isq_nonneg (a + q)
    grind
  have h3 : (a - q) * (a - q) ≤ (2 * z + 1) * (2 * z + 1) := Int.mul_le_mul hz2.2 hz2.2 (by omega) (by omega)
  have h4 : (2 * z + 1) * (2 * z + 1) = 4 * (z * z + z) + 1 := by grind
  omega
theorem sqStep_fix {n a : Int} (ha : 0 < a) (h : sqStep n a = a) : a * a - a < n ∧ n ≤ a * a + a := by
  unfold sqStep at h
  have e1 := Int.mul_ediv_add_emod (-n) a
  have e2 := Int.emod_nonneg (-n) (b := a) (by omega)
  have e3 := Int.emod_lt_of_pos (-n) ha
  generalize hq : (-n) / a = q at *
  generalize hr : (-n) % a = r at *
  have : -(a + 1) ≤ q ∧ q ≤ -a := by omega
  have h5 : q = -a ∨ q = -(a+1) := by omega
  rcases h5 with h5 | h5 <;> subst h5 <;> constructor <;> grind
theorem sqStep_less {n a : Int} (ha : 0 < a) (h : sqStep n a ≠ a) (hn : n ≤ a * a + a) : sqStep n a < a := by
  unfold sqStep at *
  have e1 := Int.mul_ediv_add_emod (-n) a
  have e2 := Int.emod_nonneg (-n) (b := a) (by omega)
  have e3 := Int.emod_lt_of_pos (-n) ha
  generalize hq : (-n) / a = q at *
  generalize hr : (-n) % a = r at *
  rcases Int.lt_or_le (a + 1) (-q) with h1 | h1
  · exfalso
    have h2 : a * q ≤ a * (-(a + 2)) := Int.mul_le_mul_of_nonneg_left (by omega) (by omega)
    have h3 : a * (-(a+2)) = -(a * a) - 2 * a := by grind
    omega
  · omega
/-- the nearest to the root of n -/
def IsSq (n r : Int) : Prop := 0 < r ∧ r * r - r < n ∧ n ≤ r * r + r
theorem IsSq.unique {n r s : Int} (h : IsSq n r) (k : IsSq n s) : r = s := by
  obtain ⟨a1, a2, a3⟩ := h
  obtain ⟨b1, b2, b3⟩ := k
  rcases Int.lt_trichotomy r s with h | h | h
  · exfalso
    have : (r + 1) * (r + 1) ≤ s * s := Int.mul_le_mul (by omega) (by omega) (by omega) (by omega)
    have h5 : (s - r - 1) * (s + r) ≥ 0 := Int.mul_nonneg (by omega) (by omega)
    grind
  · exact h
  · exfalso
    have h5 : (r - s - 1) * (r + s) ≥ 0 := Int.mul_nonneg (by omega) (by omega)
    grind
end Mine

namespace Mine
theorem sqStep_hi {n a z : Int} (hn : 0 < n) (ha : 0 < a) (hz : a ≤ z + n) (hz0 : 0 < z) : sqStep n a ≤ z + n := by
  unfold sqStep
  have e1 := Int.mul_ediv_add_emod (-n) a
  have e2 := Int.emod_nonneg (-n) (b := a) (by omega)
  have e3 := Int.emod_lt_of_pos (-n) ha
  generalize hq : (-n) / a = q at *
  generalize hr : (-n) % a = r at *
  have : -n ≤ q := by
    rcases Int.lt_or_le q (-n) with h | h
    · exfalso
      have h2 : a * q ≤ a * (-n - 1) := Int.mul_le_mul_of_nonneg_left (by omega) (by omega)
      have h3 : a * (-n - 1) = -(a * n) - a := by grind
      have h4 : n ≤ a * n := by
        have : 1 * n ≤ a * n := Int.mul_le_mul_of_nonneg_right (by omega) (by omega)
        omega
      omega
    · exact h
  omega
def sqMeas (n b a : Int) : Nat := if n ≤ a * a + a then 2 * a.toNat + (if a = b then 0 else 1) else 2 * (a.toNat + n.toNat) + 10
theorem sqMeas_less {n b a : Int} (hn : 0 < n) (ha : 0 < a) (hab : a ≠ b) : sqMeas n a (sqStep n a) < sqMeas n b a := by
  have ⟨h0, h1⟩ := sqStep_lo hn ha
  have h2 := sqStep_hi (z := a) hn ha (by omega) ha
  unfold sqMeas
  rw [if_pos h1, if_neg hab]
  by_cases e : sqStep n a = a
  · rw [if_pos e]; split <;> omega
  · rw [if_neg e]
    split
    · rename_i h
      have := sqStep_less ha e h
      omega
    · omega
end Mine
namespace Mine
theorem Fit.of_le {k : Nat} {x y : Int} (h : Fit k y) (h1 : -y ≤ x) (h2 : x ≤ y) : Fit k x := by
  unfold Fit at *; omega
theorem sq_walk {n a : Int} (ha : 0 < a) : (a - (-n).fdiv a).fdiv (2 ^ Int.toNat 1) = sqStep n a := by
  unfold sqStep
  rw [Int.fdiv_eq_ediv_of_nonneg _ (b := 2 ^ Int.toNat 1) (by decide), Int.fdiv_eq_ediv_of_nonneg _ (b := a) (by omega)]
  rfl
theorem sq_turn {n z a : Int} (hn : 0 < n) (hz : 0 < z) (ha : 0 < a) (h : a ≤ z + n) :
    0 < (a - (-n).fdiv a).fdiv (2 ^ Int.toNat 1) ∧ (a - (-n).fdiv a).fdiv (2 ^ Int.toNat 1) ≤ z + n ∧ (a = 0 ∨ (0 < a ∧ (a - (-n).fdiv a).fdiv (2 ^ Int.toNat 1) = sqStep n a)) := by
  rw [sq_walk ha]
  exact ⟨(sqStep_lo hn ha).1, sqStep_hi hn ha h hz, Or.inr ⟨ha, rfl⟩⟩
theorem sq_meas {n b a : Int} (hn : 0 < n) (ha : 0 < a) (hab : a ≠ b) : sqMeas n a ((a - (-n).fdiv a).fdiv (2 ^ Int.toNat 1)) < sqMeas n b a := by
  rw [sq_walk ha]
  exact sqMeas_less hn ha hab
theorem sq_out {n a b : Int} (ha : 0 < a) (h : b = 0 ∨ 0 < b ∧ a = sqStep n b) (e : a = b) : IsSq n a := by
  subst e
  rcases h with h | h
  · omega
  · exact ⟨ha, sqStep_fix ha h.2.symm⟩
end Mine
namespace Mine
theorem Fit.log2 {n : Nat} {x : Int} (h : Fit n x) (hn : n ≤ 1920) (h0 : 0 < n): x.natAbs.log2 < 1920 := by
  by_cases h1 : x.natAbs = 0
  · rw [h1]; decide +kernel
  · have := (Nat.log2_lt h1).mpr h
    omega
theorem Fit.len {n : Nat} {x : Int} (h : Fit n x) (hn : n ≤ 1920) (h0 : 0 < n) : ¬ (((Str.ofString (toString x)).length : Nat) : Int) ≥ 2 ^ 63 := by
  have e := int_text_length_le (k := 1920) (by decide) (h.log2 hn h0)
  rw [PySem.ofString_length]
  have : (2 : Int) ^ 63 = 9223372036854775808 := by decide
  omega
/-- len(str(x)) -/
def nd (x : Int) : Nat := (Str.ofString (toString x)).length
theorem nd_le {x : Int} {k : Nat} (hx : 0 ≤ x) (hk : 0 < k) : nd x ≤ k ↔ x < 10 ^ k := by
  unfold nd
  rw [PySem.ofString_length]
  obtain ⟨m, rfl⟩ := Int.eq_ofNat_of_zero_le hx
  have e : toString (Int.ofNat m) = Nat.repr m := rfl
  show (toString (Int.ofNat m)).length ≤ k ↔ _
  rw [e, Nat.length_repr_le_iff hk]
  have : ((10 : Int) ^ k) = ((10 ^ k : Nat) : Int) := by simp
  rw [this]
  omega
theorem nd_eq {x : Int} {k : Nat} (h1 : 10 ^ k ≤ x) (h2 : x < 10 ^ (k + 1)) : nd x = k + 1 := by
  have h0 : (0 : Int) < 10 ^ k := Int.pow_pos (by decide)
  have a := (nd_le (x := x) (k := k + 1) (by omega) (by omega)).mpr h2
  rcases Nat.eq_zero_or_pos k with hk | hk
  · subst hk
    have : 0 < nd x := by
      unfold nd
      rw [PySem.ofString_length]
      obtain ⟨m, rfl⟩ := Int.eq_ofNat_of_zero_le (show 0 ≤ x by omega)
      have e : toString (Int.ofNat m) = Nat.repr m := rfl
      show 0 < (toString (Int.ofNat m)).length
      rw [e]
      exact Nat.length_repr_pos
    omega
  · have b := mt (nd_le (x := x) (k := k) (by omega) hk).mp (by omega)
    omega
/-- the reductions of _ilog: RedTo x M R y: y after R turns -/
inductive RedTo (x M : Int) : Nat → Int → Prop where
  | zero : RedTo x M 0 (x - M)
  | succ {R : Nat} {y s : Int} : RedTo x M R y → M * 2 ^ R ≤ 256 * (y.natAbs : Int) → IsSq (M * (M + divN y (2 ^ R))) s → RedTo x M (R + 1) (divN (M * y * 2) (M + s))
/-- the terms of the series -/
def tays (p : Nat) : Nat := (10 * (p + 1) + 23) / 24
/-- the Horner loop -/
def horn (M ys w : Int) (ks : List Int) : Int := ks.foldl (fun w k => divN M k - divN (ys * w) M) w
end Mine
namespace Mine
theorem divN_bounds (a : Int) {b : Int} (hb : 0 < b) : 2 * a - b ≤ 2 * (divN a b * b) ∧ 2 * (divN a b * b) ≤ 2 * a + b := by
  unfold divN
  have e1 := Int.mul_ediv_add_emod a b
  have e2 := Int.emod_nonneg a (b := b) (by omega)
  have e3 := Int.emod_lt_of_pos a hb
  generalize hq : a / b = q at *
  generalize hr : a % b = r at *
  have e4 : (q + 1) * b = b * q + b := by grind
  have e5 : q * b = b * q := Int.mul_comm _ _
  split
  · rw [e4]; omega
  · rw [Int.add_zero, e5]; omega
theorem divN_abs (a : Int) {b : Int} (hb : 0 < b) : (divN a b).natAbs ≤ a.natAbs := by
  have e1 := Int.mul_ediv_add_emod a b
  have e2 := Int.emod_nonneg a (b := b) (by omega)
  have e3 := Int.emod_lt_of_pos a hb
  unfold divN
  generalize hq : a / b = q at *
  generalize hr : a % b = r at *
  rcases Int.lt_or_le q 0 with h | h
  · have h2 : b * (q + 1) ≤ 1 * (q + 1) := by
      have : (b - 1) * (q + 1) ≤ 0 := Int.mul_nonpos_of_nonneg_of_nonpos (by omega) (by omega)
      grind
    have e4 : b * (q + 1) = b * q + b := by grind
    split
    · omega
    · rcases Int.lt_or_le b 2 with hb2 | hb2
      · have : b = 1 := by omega
        subst this; omega
      · omega
  · have h2 : q ≤ b * q := by
      have : 1 * q ≤ b * q := Int.mul_le_mul_of_nonneg_right (by omega) h
      omega
    split
    · have : 0 < r := by
        rcases Int.lt_or_le 0 r with h3 | h3
        · exact h3
        · have : r = 0 := by omega
          subst this
          have : b = 1 := by omega
          subst this
          omega
      omega
    · omega
theorem Fit.divN {k : Nat} {a b : Int} (h : Fit k a) (hb : 0 < b) : Fit k (divN a b) :=
  Nat.lt_of_le_of_lt (divN_abs a hb) h
theorem IsSq.le {n s : Int} (h : IsSq n s) : s ≤ n := by
  obtain ⟨h1, h2, h3⟩ := h
  rcases Int.lt_or_le s 2 with h | h
  · have : s = 1 := by omega
    subst this; omega
  · have : 2 * s ≤ s * s := Int.mul_le_mul_of_nonneg_right h (by omega)
    omega
theorem Fit.sq {k : Nat} {n s : Int} (h : Fit k n) (hs : IsSq n s) : Fit k s := by
  have := hs.le
  have := hs.1
  unfold Fit at *; omega
theorem Fit.abs {k : Nat} {y : Int} (h : Fit k y) : Fit k (if y < 0 then -y else y) := by
  split
  · exact h.neg
  · exact h
theorem Fit.shl {k : Nat} {y n : Int} (h : Fit k y) (hn : n ≤ 100) (hk : k ≤ 1000000) : (Builtin.Int.intBits y : Int) + n ≤ 2 ^ 27 := by
  have := h.bits
  have : (2 : Int) ^ 27 = 134217728 := by decide
  omega
theorem Fit.two (k : Nat) (hk : k ≤ 100) : Fit 200 (2 ^ k) := by
  unfold Fit
  have : ((2 : Int) ^ k).natAbs = 2 ^ k := by
    rw [Int.natAbs_pow]; rfl
  rw [this]
  exact Nat.pow_lt_pow_right (by decide) (by omega)
end Mine
namespace Mine
/-- what the walk of _ilog asks of the reductions -/
def RedOk (x M : Int) : Prop := ∀ R y, RedTo x M R y → R ≤ 14 ∧ -(10 * M) ≤ y ∧ y ≤ 10 * M ∧ 0 < M + divN y (2 ^ R)
theorem il_start {x M : Int} (h : RedOk x M) : (0 : Int) ≤ 0 ∧ (0 : Int) ≤ 14 ∧ -(10 * M) ≤ x - M ∧ x - M ≤ 10 * M ∧ 0 < M + divN (x - M) (2 ^ Int.toNat 0) ∧ RedTo x M (Int.toNat 0) (x - M) := by
  have h1 := h 0 _ RedTo.zero
  exact ⟨by decide, by decide, h1.2.1, h1.2.2.1, h1.2.2.2, RedTo.zero⟩
end Mine
namespace Mine
theorem IsSq.pos {n s : Int} (h : IsSq n s) : 0 < s := h.1
theorem abs_if (y : Int) : (if y < 0 then -y else y) = (y.natAbs : Int) := by split <;> omega
theorem cond1 {y M R : Int} (h0 : 0 ≤ R) (h8 : R ≤ 8) : M ≤ (if y < 0 then -y else y) * 2 ^ (8 - R).toNat ↔ M * 2 ^ R.toNat ≤ 256 * (y.natAbs : Int) := by
  rw [abs_if]
  have e : (256 : Int) = 2 ^ (8 - R).toNat * 2 ^ R.toNat := by
    rw [← Int.pow_add, show (8 - R).toNat + R.toNat = 8 by omega]; rfl
  have hp : (0 : Int) < 2 ^ R.toNat := Int.pow_pos (by decide)
  rw [e]
  generalize (2 : Int) ^ R.toNat = u at *
  generalize (2 : Int) ^ (8 - R).toNat = v at *
  rw [show v * u * (y.natAbs : Int) = ((y.natAbs : Int) * v) * u by grind]
  exact ⟨fun h => Int.mul_le_mul_of_nonneg_right h (by omega), fun h => Int.le_of_mul_le_mul_right h hp⟩
theorem cond2 {y M R : Int} (h8 : 8 < R) : M ≤ (if y < 0 then -y else y).fdiv (2 ^ (R - 8).toNat) ↔ M * 2 ^ R.toNat ≤ 256 * (y.natAbs : Int) := by
  rw [abs_if]
  have e : (2 : Int) ^ R.toNat = 256 * 2 ^ (R - 8).toNat := by
    rw [show (256 : Int) = 2 ^ 8 by rfl, ← Int.pow_add, show 8 + (R - 8).toNat = R.toNat by omega]
  have hp : (0 : Int) < 2 ^ (R - 8).toNat := Int.pow_pos (by decide)
  rw [e, Int.fdiv_eq_ediv_of_nonneg _ (by omega)]
  generalize (2 : Int) ^ (R - 8).toNat = u at *
  rw [Int.le_ediv_iff_mul_le hp, show M * (256 * u) = 256 * (M * u) by grind]
  omega
theorem il_turn {x M R y s : Int} (h : RedOk x M) (h0 : 0 ≤ R) (hr : RedTo x M R.toNat y) (hc : M * 2 ^ R.toNat ≤ 256 * (y.natAbs : Int)) (hs : IsSq (M * (M + divN y (2 ^ R.toNat))) s) :
    0 ≤ R + 1 ∧ R + 1 ≤ 14 ∧ -(10 * M) ≤ divN (M * y * 2 ^ Int.toNat 1) (M + s) ∧ divN (M * y * 2 ^ Int.toNat 1) (M + s) ≤ 10 * M ∧ 0 < M + divN (divN (M * y * 2 ^ Int.toNat 1) (M + s)) (2 ^ (R + 1).toNat) ∧ RedTo x M (R + 1).toNat (divN (M * y * 2 ^ Int.toNat 1) (M + s)) := by
  have e : (R + 1).toNat = R.toNat + 1 := by omega
  have r := RedTo.succ hr hc hs
  have k := h _ _ r
  rw [e]
  exact ⟨by omega, by omega, k.2.1, k.2.2.1, k.2.2.2, r⟩
end Mine
namespace Mine
theorem T_walk {M : Int} {p : Nat} (hM : M = 10 ^ p) : -(-10 * ((Str.ofString (toString M)).length : Int)).fdiv (3 * 8) = (tays p : Int) := by
  have h : (Str.ofString (toString M)).length = p + 1 := by
    refine nd_eq (x := M) (k := p) (by omega) ?_
    rw [hM, Int.pow_succ]
    have : (0 : Int) < 10 ^ p := Int.pow_pos (by decide)
    omega
  rw [h, Int.fdiv_eq_ediv_of_nonneg _ (by decide)]
  unfold tays
  omega
theorem tays_pos (p : Nat) : 0 < tays p := by unfold tays; omega
theorem T_pos {M : Int} {p : Nat} (hM : M = 10 ^ p) : 0 < -(-10 * ((Str.ofString (toString M)).length : Int)).fdiv (3 * 8) := by
  rw [T_walk hM]; have := tays_pos p; omega
theorem Fit.nat {k : Nat} (n : Nat) (h : n < 2 ^ k) : Fit k (n : Int) := by
  unfold Fit; omega
theorem T_fit {M : Int} {p : Nat} (hM : M = 10 ^ p) (hp : p ≤ 1000) : Fit 20 (-(-10 * ((Str.ofString (toString M)).length : Int)).fdiv (3 * 8)) := by
  rw [T_walk hM]
  refine Fit.nat _ ?_
  unfold tays; omega
end Mine
namespace Mine
theorem divN_le {a b c : Int} (hb : 0 < b) (h : a ≤ c * b) : divN a b ≤ c := by
  have h1 := (divN_bounds a hb).2
  rcases Int.lt_or_le c (divN a b) with h2 | h2
  · exfalso
    have h3 : (c + 1) * b ≤ divN a b * b := Int.mul_le_mul_of_nonneg_right (by omega) (by omega)
    have h4 : (c + 1) * b = c * b + b := by grind
    omega
  · exact h2
theorem le_divN {a b c : Int} (hb : 0 < b) (h : c * b ≤ a) : c ≤ divN a b := by
  have h1 := (divN_bounds a hb).1
  rcases Int.lt_or_le (divN a b) c with h2 | h2
  · exfalso
    have h3 : divN a b * b ≤ (c - 1) * b := Int.mul_le_mul_of_nonneg_right (by omega) (by omega)
    have h4 : (c - 1) * b = c * b - b := by grind
    omega
  · exact h2
theorem ys_half {y M : Int} {R : Nat} (hM : 0 < M) (h : 256 * (y.natAbs : Int) < M * 2 ^ R) : -M ≤ 2 * divN y (2 ^ R) ∧ 2 * divN y (2 ^ R) ≤ M := by
  have hp : (0 : Int) < 2 ^ R := Int.pow_pos (by decide)
  have hb := divN_bounds y hp
  generalize (2 : Int) ^ R = u at *
  generalize divN y u = d at *
  -- |d| u ≤ |y| + u/2 < M u /256 + u/2
  constructor
  · rcases Int.lt_or_le (2 * d) (-M) with h2 | h2
    · exfalso
      have h3 : 2 * d * u ≤ (-M - 1) * u := Int.mul_le_mul_of_nonneg_right (by omega) (by omega)
      have h4 : (-M - 1) * u = -(M * u) - u := by grind
      have h5 : u ≤ M * u := by
        have : 1 * u ≤ M * u := Int.mul_le_mul_of_nonneg_right (by omega) (by omega)
        omega
      have h6 : 2 * d * u = 2 * (d * u) := by grind
      omega
    · exact h2
  · rcases Int.lt_or_le M (2 * d) with h2 | h2
    · exfalso
      have h3 : (M + 1) * u ≤ 2 * d * u := Int.mul_le_mul_of_nonneg_right (by omega) (by omega)
      have h4 : (M + 1) * u = M * u + u := by grind
      have h5 : u ≤ M * u := by
        have : 1 * u ≤ M * u := Int.mul_le_mul_of_nonneg_right (by omega) (by omega)
        omega
      have h6 : 2 * d * u = 2 * (d * u) := by grind
      omega
    · exact h2
theorem hs_start {y M T : Int} {R : Nat} (hM : 0 < M) (hT : 0 < T) (h : 256 * (y.natAbs : Int) < M * 2 ^ R) :
    divN M T = horn M (divN y (2 ^ R)) (divN M T) [] ∧ -(2 * M + 2) ≤ divN M T ∧ divN M T ≤ 2 * M + 2 ∧ -M ≤ 2 * divN y (2 ^ R) ∧ 2 * divN y (2 ^ R) ≤ M := by
  have h1 := divN_abs M hT
  have h2 := ys_half hM h
  refine ⟨rfl, by omega, by omega, h2.1, h2.2⟩
end Mine
namespace Mine
theorem T_hi {M : Int} {p : Nat} (hM : M = 10 ^ p) (hp : p ≤ 1000) : -(-10 * ((Str.ofString (toString M)).length : Int)).fdiv (3 * 8) ≤ 1000 := by
  rw [T_walk hM]; unfold tays; omega
end Mine
namespace Mine
theorem Fit.small {x : Int} (h1 : -1000000 ≤ x) (h2 : x ≤ 1000000) : Fit 20 x := by
  unfold Fit; omega
theorem hs_turn {M ys w0 w k : Int} {pre : List Int} (hM : 0 < M) (hk : 0 < k) (h : w = horn M ys w0 pre) (h1 : -(2 * M + 2) ≤ w) (h2 : w ≤ 2 * M + 2) (h3 : -M ≤ 2 * ys) (h4 : 2 * ys ≤ M) :
    divN M k - divN (ys * w) M = horn M ys w0 (pre ++ [k]) ∧ -(2 * M + 2) ≤ divN M k - divN (ys * w) M ∧ divN M k - divN (ys * w) M ≤ 2 * M + 2 ∧ -M ≤ 2 * ys ∧ 2 * ys ≤ M := by
  have e1 := divN_abs M hk
  have e0 : 0 ≤ divN M k := le_divN hk (by omega)
  have e2 : (2 * ys * w).natAbs ≤ M.natAbs * (2 * M + 2).natAbs := by
    rw [Int.natAbs_mul]
    exact Nat.mul_le_mul (by omega) (by omega)
  have e3 : ((M.natAbs * (2 * M + 2).natAbs : Nat) : Int) = M * (2 * M + 2) := by
    rw [Int.natCast_mul]; congr 1 <;> omega
  have e4 : 2 * ys * w = 2 * (ys * w) := by grind
  have e5 : M * (2 * M + 2) = 2 * ((M + 1) * M) := by grind
  have e8 : (-(M + 1)) * M = -((M + 1) * M) := by grind
  have e6 : divN (ys * w) M ≤ M + 1 := divN_le hM (by omega)
  have e7 : -(M + 1) ≤ divN (ys * w) M := le_divN hM (by omega)
  refine ⟨?_, by omega, by omega, h3, h4⟩
  unfold horn at *
  rw [List.foldl_append, ← h]
  rfl
end Mine
namespace Mine
/-- what _ilog gives back -/
def ilTail (p : Nat) (M : Int) (R : Nat) (y : Int) : Int := divN (horn M (divN y (2 ^ R)) (divN M (tays p)) (downKs ((tays p : Int) - 1) (tays p - 1)) * y) M
def IsIlog (p : Nat) (x M r : Int) : Prop := ∃ R y, RedTo x M R y ∧ 256 * (y.natAbs : Int) < M * 2 ^ R ∧ r = ilTail p M R y
theorem il_end {p : Nat} {x M R y w : Int} (hM : M = 10 ^ p) (hr : RedTo x M R.toNat y) (hc : 256 * (y.natAbs : Int) < M * 2 ^ R.toNat)
    (hw : w = horn M (divN y (2 ^ R.toNat)) (divN M (-(-10 * ((Str.ofString (toString M)).length : Int)).fdiv (3 * 8))) (downKs (-(-10 * ((Str.ofString (toString M)).length : Int)).fdiv (3 * 8) - 1) (-(-10 * ((Str.ofString (toString M)).length : Int)).fdiv (3 * 8) - 1 - 0).toNat)) :
    IsIlog p x M (divN (w * y) M) := by
  refine ⟨_, _, hr, hc, ?_⟩
  rw [T_walk hM] at hw
  rw [hw]
  unfold ilTail
  rw [show ((tays p : Int) - 1 - 0).toNat = tays p - 1 by omega]
end Mine
namespace Mine
def dlC (c k : Int) : Int := if 0 ≤ k then c * 10 ^ k.toNat else divN c (10 ^ (-k).toNat)
theorem f_zero {e l : Int} (h : e + l = 0 ∨ e + l = 1) : (e + l - if decide (1 ≤ e + l) = true then 1 else 0) = 0 := by
  rcases h with h | h <;> rw [h] <;> decide
theorem Fit.ten {k : Nat} {x : Int} (hx : x = 10 ^ k) (hk : k ≤ 300) : Fit 1200 x := by
  unfold Fit
  rw [hx, Int.natAbs_pow]
  have h1 : (10 : Int).natAbs = 10 := rfl
  rw [h1]
  have : (10 : Nat) ^ k ≤ 16 ^ k := Nat.pow_le_pow_left (by decide) k
  have h2 : (16 : Nat) ^ k = 2 ^ (4 * k) := by rw [Nat.pow_mul]
  have : (2 : Nat) ^ (4 * k) < 2 ^ (4 * 300 + 1) := Nat.pow_lt_pow_right (by decide) (by omega)
  have h3 : (10 : Nat) ^ k < 2 ^ 1200 ∨ True := Or.inr trivial
  rcases Nat.lt_or_ge k 300 with h | h
  · have : (2 : Nat) ^ (4 * k) < 2 ^ 1200 := Nat.pow_lt_pow_right (by decide) (by omega)
    omega
  · have : k = 300 := by omega
    subst this
    exact (by decide +kernel : (10:Nat) ^ 300 < 2 ^ 1200)
end Mine
namespace Mine
theorem dlC_pos {c k : Int} (h : 0 ≤ k) : dlC c k = c * 10 ^ k.toNat := if_pos h
theorem dlC_neg {c k : Int} (h : ¬ 0 ≤ k) : dlC c k = divN c (10 ^ (-k).toNat) := if_neg h
theorem ilR1 {c K : Int} {n : Nat} (h : 0 ≤ K) (hR : RedOk (dlC c K) (10 ^ n)) : RedOk (c * 10 ^ K.toNat) (10 ^ (n : Int).toNat) := by
  rw [dlC_pos h] at hR; exact hR
theorem ilR2 {c K : Int} {n : Nat} (h : ¬ 0 ≤ K) (hR : RedOk (dlC c K) (10 ^ n)) : RedOk (divN c (10 ^ (-K).toNat)) (10 ^ (n : Int).toNat) := by
  rw [dlC_neg h] at hR; exact hR
theorem dl_end1 {c K d r : Int} {n : Nat} (h : 0 ≤ K) (hd : IsIlog n (c * 10 ^ K.toNat) (10 ^ (n : Int).toNat) d) (hr : r = divN (0 + d) 100) : ∃ d, IsIlog n (dlC c K) (10 ^ n) d ∧ r = divN d 100 := by
  refine ⟨d, ?_, by rw [hr, Int.zero_add]⟩
  rw [dlC_pos h]; exact hd
theorem dl_end2 {c K d r : Int} {n : Nat} (h : ¬ 0 ≤ K) (hd : IsIlog n (divN c (10 ^ (-K).toNat)) (10 ^ (n : Int).toNat) d) (hr : r = divN (0 + d) 100) : ∃ d, IsIlog n (dlC c K) (10 ^ n) d ∧ r = divN d 100 := by
  refine ⟨d, ?_, by rw [hr, Int.zero_add]⟩
  rw [dlC_neg h]; exact hd
end Mine
namespace Mine
theorem ten_nat (n : Nat) : (10 : Int) ^ (n : Int).toNat = 10 ^ n := by rw [Int.toNat_natCast]
theorem ten_fit {n : Nat} (h : n ≤ 200) : Fit 1500 (20 * (10 : Int) ^ (n : Int).toNat) :=
  Fit.mono (Fit.mul (n := 20) (Fit.small (by decide) (by decide)) (Fit.ten (ten_nat n) (by omega))) (by decide)
end Mine

end
section
namespace Mine
theorem Fit.powOk {k : Nat} {x n : Int} (h : Fit k x) (hn : 0 ≤ n ∧ n ≤ 10000) (hk : k ≤ 10000) : (Builtin.Int.intBits x : Int) * n ≤ 2 ^ 27 := by
  have h1 := h.bits
  have h2 : (Builtin.Int.intBits x : Int) * n ≤ 10000 * 10000 := Int.mul_le_mul (by omega) hn.2 hn.1 (by decide)
  have : (2 : Int) ^ 27 = 134217728 := by decide
  omega
end Mine
end
section
namespace Mine
theorem fmod_rng {D b : Int} (hb : 0 < b) : 0 ≤ D.fmod b ∧ D.fmod b < b := by
  rw [Int.fmod_eq_emod_of_nonneg _ (by omega)]
  exact ⟨Int.emod_nonneg _ (by omega), Int.emod_lt_of_pos _ hb⟩
end Mine
end
section
open PySem PySem.W PyProof.Rows
namespace Mine
/-- the Taylor loop of _iexp: y after i turns -/
def ieT (Ms x : Int) (T : Nat) : Nat → Int
  | 0 => divN x T
  | i + 1 => divN (x * (Ms + ieT Ms x T i)) (Ms * ((T : Int) - 1 - i))
/-- the doublings: y after j turns -/
def ieD (M y0 : Int) (R : Nat) : Nat → Int
  | 0 => y0
  | j + 1 => divN (ieD M y0 R j * (ieD M y0 R j + M * 2 ^ (R + 1 - j))) (M * 2 ^ (R + 1 - j))
def ieY (p : Nat) (x M : Int) (R : Nat) : Int := ieT (M * 2 ^ R) x (tays p) (tays p - 1)
/-- what the walk of _iexp asks -/
def IeOk (p : Nat) (x M : Int) : Prop := ∀ R : Nat, 256 * x < M * 2 ^ R → (R = 0 ∨ M * 2 ^ R ≤ 512 * x) → R ≤ 12 ∧ ∀ j, j ≤ R → 0 ≤ ieD M (ieY p x M R) R j ∧ ieD M (ieY p x M R) R j ≤ 20000 * M
def IsIexp (p : Nat) (x M r : Int) : Prop := ∃ R : Nat, 256 * x < M * 2 ^ R ∧ (R = 0 ∨ M * 2 ^ R ≤ 512 * x) ∧ r = M + ieD M (ieY p x M R) R R
theorem bits_R {a : Int} (ha : 0 ≤ a) : a < 2 ^ (Builtin.Int.intBits a) ∧ (Builtin.Int.intBits a = 0 ∨ 2 ^ (Builtin.Int.intBits a) ≤ 2 * a) := by
  unfold Builtin.Int.intBits
  split
  · rename_i h
    have : a = 0 := by simpa using h
    subst this
    exact ⟨by decide, Or.inl rfl⟩
  · rename_i h
    have h0 : a.natAbs ≠ 0 := by intro e; apply h; simp; omega
    have h1 := (Nat.log2_lt h0).mp (Nat.lt_succ_self _)
    have h2 := Nat.log2_self_le h0
    refine ⟨?_, Or.inr ?_⟩
    · have : ((a.natAbs : Nat) : Int) < ((2 ^ (a.natAbs.log2 + 1) : Nat) : Int) := by exact_mod_cast h1
      rw [show ((2 ^ (a.natAbs.log2 + 1) : Nat) : Int) = 2 ^ (a.natAbs.log2 + 1) by push_cast; rfl] at this
      omega
    · have : ((2 ^ a.natAbs.log2 : Nat) : Int) ≤ ((a.natAbs : Nat) : Int) := by exact_mod_cast h2
      rw [show ((2 ^ a.natAbs.log2 : Nat) : Int) = 2 ^ a.natAbs.log2 by push_cast; rfl] at this
      rw [Int.pow_succ]
      omega
theorem ie_R {x M : Int} (hM : 0 < M) (hx : 0 ≤ x) {R : Nat} (hR : Builtin.Int.intBits ((x * 2 ^ Int.toNat 8).fdiv M) = R) : 256 * x < M * 2 ^ R ∧ (R = 0 ∨ M * 2 ^ R ≤ 512 * x) := by
  have e8 : (2 : Int) ^ Int.toNat 8 = 256 := by decide
  rw [e8, Int.fdiv_eq_ediv_of_nonneg _ (by omega)] at hR
  have h := bits_R (a := x * 256 / M) (Int.ediv_nonneg (by omega) (by omega))
  rw [hR] at h
  have e1 := Int.mul_ediv_add_emod (x * 256) M
  have e2 := Int.emod_nonneg (x * 256) (b := M) (by omega)
  have e3 := Int.emod_lt_of_pos (x * 256) hM
  generalize hq : x * 256 / M = q at *
  generalize hp : (2 : Int) ^ R = P at *
  have m1 : M * (q + 1) ≤ M * P := Int.mul_le_mul_of_nonneg_left (by omega) (by omega)
  have e4 : M * (q + 1) = M * q + M := by grind
  refine ⟨by omega, ?_⟩
  rcases h.2 with h | h
  · exact Or.inl h
  · right
    have m2 : M * P ≤ M * (2 * q) := Int.mul_le_mul_of_nonneg_left h (by omega)
    have e5 : M * (2 * q) = 2 * (M * q) := by grind
    omega
theorem ieT_bound {Ms x y k : Int} (hx : 0 ≤ x) (hM : 256 * x < Ms) (hk : 0 < k) (h0 : 0 ≤ y) (h1 : y ≤ 2 * x) : 0 ≤ divN (x * (Ms + y)) (Ms * k) ∧ divN (x * (Ms + y)) (Ms * k) ≤ 2 * x := by
  have hMk : 0 < Ms * k := Int.mul_pos (by omega) hk
  have hMk2 : Ms ≤ Ms * k := by
    have := Int.mul_le_mul_of_nonneg_left (show 1 ≤ k by omega) (show 0 ≤ Ms by omega)
    omega
  constructor
  · exact le_divN hMk (by have := Int.mul_nonneg hx (show 0 ≤ Ms + y by omega); omega)
  · refine divN_le hMk ?_
    have a := Int.mul_le_mul_of_nonneg_left (show Ms + y ≤ 2 * Ms by omega) hx
    have b := Int.mul_le_mul_of_nonneg_left hMk2 (show 0 ≤ 2 * x by omega)
    have e : x * (2 * Ms) = 2 * x * Ms := by grind
    omega
/-- the start of the Taylor loop -/
theorem ieT_start {Ms x : Int} {T : Nat} (hx : 0 ≤ x) (hT : 0 < T) : divN x T = ieT Ms x T ([] : List Int).length ∧ 0 ≤ divN x T ∧ divN x T ≤ 2 * x := by
  refine ⟨rfl, le_divN (by omega) (by omega), divN_le (by omega) ?_⟩
  have := Int.mul_le_mul_of_nonneg_left (show (1 : Int) ≤ T by omega) (show 0 ≤ 2 * x by omega)
  omega
theorem ieT_turn {Ms x y k : Int} {T : Nat} {pre : List Int} (hx : 0 ≤ x) (hM : 256 * x < Ms) (hk0 : 0 < k) (hk : k = (T : Int) - 1 - (pre.length : Int)) (h : y = ieT Ms x T pre.length) (h0 : 0 ≤ y) (h1 : y ≤ 2 * x) :
    divN (x * (Ms + y)) (Ms * k) = ieT Ms x T (pre ++ [k]).length ∧ 0 ≤ divN (x * (Ms + y)) (Ms * k) ∧ divN (x * (Ms + y)) (Ms * k) ≤ 2 * x := by
  refine ⟨?_, ieT_bound hx hM hk0 h0 h1⟩
  rw [List.length_append, List.length_singleton, ieT, ← h, hk]
theorem ieD_turn {M y0 y k : Int} {R : Nat} {pre : List Int} (hk0 : 0 ≤ k) (hk : k = (R : Int) - 1 - (pre.length : Int)) (h : y = ieD M y0 R pre.length) (hok : ∀ j, j ≤ R → 0 ≤ ieD M y0 R j ∧ ieD M y0 R j ≤ 20000 * M) :
    divN (y * (y + M * 2 ^ (k + 2).toNat)) (M * 2 ^ (k + 2).toNat) = ieD M y0 R (pre ++ [k]).length ∧ 0 ≤ divN (y * (y + M * 2 ^ (k + 2).toNat)) (M * 2 ^ (k + 2).toNat) ∧ divN (y * (y + M * 2 ^ (k + 2).toNat)) (M * 2 ^ (k + 2).toNat) ≤ 20000 * M := by
  have e : (k + 2).toNat = R + 1 - pre.length := by omega
  have e2 : divN (y * (y + M * 2 ^ (k + 2).toNat)) (M * 2 ^ (k + 2).toNat) = ieD M y0 R (pre.length + 1) := by rw [ieD, ← h, e]
  have o := hok (pre.length + 1) (by omega)
  rw [e2, List.length_append, List.length_singleton]
  exact ⟨rfl, o⟩
theorem downKs_len (a : Int) (n : Nat) : (downKs a n).length = n := downKs_length a n
end Mine
namespace Mine
section
variable {M : Model} {A : Around} {E : Value → Shared → Prop} {s : Shared} {env : Env} {Q : Unit → Shared → Prop}
theorem st_T {e : Int} {T : Nat} {t : Tok} (he : e = (T : Int)) (h : wpAny M A (storeName env (Str.ofString "T") (.int (T : Int) t)) Q E s) : wpAny M A (storeName env (Str.ofString "T") (.int e t)) Q E s := by
  rw [he]; exact h
theorem st_R {n R : Nat} {t : Tok} (he : n = R) (h : wpAny M A (storeName env (Str.ofString "R") (.int (R : Int) t)) Q E s) : wpAny M A (storeName env (Str.ofString "R") (.int (n : Int) t)) Q E s := by
  rw [he]; exact h
end
end Mine
namespace Mine
theorem ie_dstart {M x y : Int} {R T : Nat} (h : y = ieT (M * 2 ^ R) x T (downKs ((T : Int) - 1) ((T : Int) - 1 - 0).toNat).length) (h0 : 0 ≤ y) (h1 : y ≤ 2 * x) (hx : x ≤ 4 * M) :
    y = ieD M (ieT (M * 2 ^ R) x T (T - 1)) R ([] : List Int).length ∧ 0 ≤ y ∧ y ≤ 20000 * M := by
  refine ⟨?_, h0, by omega⟩
  rw [downKs_length] at h
  show y = ieT (M * 2 ^ R) x T (T - 1)
  rw [h]; congr 1; omega
theorem ie_end {p : Nat} {x M y : Int} {R T : Nat} (hT : tays p = T) (h1 : 256 * x < M * 2 ^ R) (h2 : R = 0 ∨ M * 2 ^ R ≤ 512 * x) (h : y = ieD M (ieT (M * 2 ^ R) x T (T - 1)) R (downKs ((R : Int) - 1) ((R : Int) - 1 - -1).toNat).length) : IsIexp p x M (M + y) := by
  refine ⟨R, h1, h2, ?_⟩
  rw [downKs_length] at h
  rw [h, ieY, hT]
  congr 2; omega
end Mine
namespace Mine
section
variable {M : Model} {A : Around} {E : Value → Shared → Prop} {s : Shared} {env : Env} {Q : Unit → Shared → Prop}
theorem st_Ms {m : Int} {R : Nat} {t : Tok} (h : wpAny M A (storeName env (Str.ofString "Mshift") (.int (m * 2 ^ R) t)) Q E s) : wpAny M A (storeName env (Str.ofString "Mshift") (.int (m * 2 ^ (R : Int).toNat) t)) Q E s := by
  rw [Int.toNat_natCast]; exact h
end
end Mine

end
section
open PySem PySem.W PyProof.Rows
namespace Mine
theorem top_meth {K : Frag} {h₀ h : Heap} {L q : Addr} {m : Str → Option Value} {f self : Value} (X : K.In h₀) (F : Fr h₀ L h m) (hk : K.lookup q = some (methodObj f self)) : h.get? q = some (methodObj f self) := (X.keeps F.keep) _ _ hk
/-- the digits of log 10 that the memo holds -/
def l10 (p : Nat) : Int := 23025850929940456840179914546843642076011014886 / 10 ^ (46 - p)
end Mine
namespace Mine
open PySem PySem.W PyProof.Rows
theorem dig_text0 : ∀ p : Fin 47, PySem.intText? (Txt.slice (Str.ofString "23025850929940456840179914546843642076011014886") none (some (((p : Nat) : Int) + 1))) = some (l10 p) := by decide +kernel
theorem dig_len0 : ∀ p : Fin 47, (Txt.slice (Str.ofString "23025850929940456840179914546843642076011014886") none (some (((p : Nat) : Int) + 1))).length ≤ 47 := by decide +kernel
theorem dig_text {p : Int} (h0 : 0 ≤ p) (h1 : p ≤ 46) : PySem.intText? (Txt.slice (Str.ofString "23025850929940456840179914546843642076011014886") none (some (p + 1))) = some (l10 p.toNat) := by
  have := dig_text0 ⟨p.toNat, by omega⟩
  rw [show ((p.toNat : Nat) : Int) = p by omega] at this
  exact this
theorem dig_len {p : Int} (h0 : 0 ≤ p) (h1 : p ≤ 46) : (Txt.slice (Str.ofString "23025850929940456840179914546843642076011014886") none (some (p + 1))).length ≤ 47 := by
  have := dig_len0 ⟨p.toNat, by omega⟩
  rw [show ((p.toNat : Nat) : Int) = p by omega] at this
  exact this
end Mine
namespace Mine
open PySem PySem.W PyProof.Rows
section
variable {M : Model} {A : Around} {E : Value → Shared → Prop} {s : Shared} {env : Env} {Q : Unit → Shared → Prop}
theorem st_eq {x : Str} {a b : Int} {t : Tok} (he : a = b) (h : wpAny M A (storeName env x (.int b t)) Q E s) : wpAny M A (storeName env x (.int a t)) Q E s := by
  rw [he]; exact h
end
/-- f of _dlog -/
def dlF (c e : Int) : Int := e + nd c - (if decide (1 ≤ e + (nd c : Int)) = true then 1 else 0)
/-- what _dlog adds for the power of ten -/
def dlT (f : Int) (n : Nat) : Int := if f = 0 then 0 else divN (f * l10 (n + (nd (f.natAbs : Int) - 1))) (10 ^ (nd (f.natAbs : Int) - 1))
def IsDlog (n : Nat) (c e r : Int) : Prop := ∃ d, IsIlog n (dlC c (e + n - dlF c e)) (10 ^ n) d ∧ r = divN (dlT (dlF c e) n + d) 100
theorem l10_fit (p : Nat) : Fit 160 (l10 p) := by
  have h : (0 : Int) ≤ l10 p := Int.ediv_nonneg (by decide) (Int.le_of_lt (Int.pow_pos (by decide)))
  have h2 : l10 p ≤ 23025850929940456840179914546843642076011014886 := by
    unfold l10
    exact Int.ediv_le_self _ (by decide)
  have e : Fit 160 (23025850929940456840179914546843642076011014886 : Int) := by unfold Fit; decide +kernel
  exact Fit.of_le e (by omega) h2
theorem nd_pos (x : Int) (h : 0 ≤ x) : 1 ≤ nd x := by
  unfold nd
  rw [PySem.ofString_length]
  obtain ⟨m, rfl⟩ := Int.eq_ofNat_of_zero_le h
  have e : toString (Int.ofNat m) = Nat.repr m := rfl
  show 1 ≤ (toString (Int.ofNat m)).length
  rw [e]
  exact Nat.length_repr_pos
theorem dl_k1 {c K d : Int} {n : Nat} (h : 0 ≤ K) (hd : IsIlog n (c * 10 ^ K.toNat) (10 ^ (n : Int).toNat) d) : IsIlog n (dlC c K) (10 ^ n) d := by
  rw [dlC_pos h]; exact hd
theorem dl_k2 {c K d : Int} {n : Nat} (h : ¬ 0 ≤ K) (hd : IsIlog n (divN c (10 ^ (-K).toNat)) (10 ^ (n : Int).toNat) d) : IsIlog n (dlC c K) (10 ^ n) d := by
  rw [dlC_neg h]; exact hd
theorem dl_t0 {n : Nat} {f : Int} (h : f = 0) : 0 = dlT f n := by rw [dlT, if_pos h]
theorem dl_t1 {n ex : Nat} {f : Int} (h : f ≠ 0) (he : nd (f.natAbs : Int) - 1 = ex) : divN (f * l10 ((n : Int) + (ex : Int)).toNat) (10 ^ (ex : Int).toNat) = dlT f n := by
  rw [dlT, if_neg h, he, Int.toNat_natCast, show ((n : Int) + (ex : Int)).toNat = n + ex by omega]
theorem dl_fin {n : Nat} {c e f K d t r : Int} (hf : dlF c e = f) (hK : e + (n : Int) - f = K) (hd : IsIlog n (dlC c K) (10 ^ n) d) (ht : t = dlT f n) (hr : r = divN (t + d) 100) : IsDlog n c e r := by
  refine ⟨d, ?_, ?_⟩
  · rw [hf, hK]; exact hd
  · rw [hf, ← ht]; exact hr
end Mine
namespace Mine
open PySem PySem.W PyProof.Rows
section
variable {M : Model} {A : Around} {E : Value → Shared → Prop} {s : Shared} {K : Frag} {env : Env} {pos : Pos} {first : List Value} {Q : Value → Shared → Prop}
/-- a call of a method that the top has bound -/
theorem callWith_T {h₀ : Heap} {q g : Addr} {self : Value} {e : Expr} {rest : List Expr} (_X : K.In h₀) (hq : K.lookup q = some (methodObj (.ref g) self)) (hf : fnIn K g = true) (h : wpAny M A (spliced (backTo pos (starEach (e :: rest) env))) (fun vs s₁ => K.In s₁.heap ∧ wpAny M A (call (.ref q) (first ++ vs)) Q E s₁) E s)
    (he : starEach (e :: rest) env = (false, eval e env) :: starEach rest env := by rfl) (hplain : (backTo pos (starEach rest env)).any (·.1) = false := by rfl) :
    wpAny M A (callWith pos (.ref q) first (backTo pos (starEach (e :: rest) env)) []) Q E s := by
  rw [he] at h ⊢
  exact callWith_of (P := fun hh => K.In hh) (by show ((false || (backTo pos (starEach rest env)).any (·.1)) || false) = false; rw [hplain]; rfl) (fun hh X => keeps_M hf hh ⟨X _ _ hq, X⟩) (PySem.Calls.evalArgs_plain h)
end
end Mine

end
section
open PySem PySem.W PyProof.Rows
namespace Mine
/-- extra, cshift, quot, rem of _dexp -/
def dxE (c e : Int) : Nat := (e + nd c - 1).toNat
def dxC (n : Nat) (c e : Int) : Int := if 0 ≤ e + ((n + dxE c e : Nat) : Int) then c * 10 ^ (e + ((n + dxE c e : Nat) : Int)).toNat else c / 10 ^ (-(e + ((n + dxE c e : Nat) : Int))).toNat
def dxR (n : Nat) (c e : Int) : Int := divN (dxC n c e % l10 (n + dxE c e)) (10 ^ dxE c e)
def IsDexp (n : Nat) (c e d f : Int) : Prop := ∃ E, IsIexp n (dxR n c e) (10 ^ n) E ∧ d = divN E 1000 ∧ f = dxC n c e / l10 (n + dxE c e) - n + 3
/-- a call that gives back a pair of ints -/
abbrev ConP (prog : Program) (w : World) (K : Frag) (p : Program) (loose : List Str) (mean : ExcName → Option Value) (mg mb : Str → Option Value) (d : Nat) (f : Addr) (vs : List Value) (P : Int → Int → Prop) : Prop :=
  ∀ (news : List (Addr × Obj)) (dp un : Nat) (gd : Option (List Code)) (cn : Str) (cs : Scope) (a : Addr) (ccd : Value) (cl : List (Str × Addr)) (outer : List Env) (A₀ : Around) (base h₀ : Heap) (L : Addr) (m : Str → Option Value) (s : Shared) (Q E : Value → Shared → Prop),
    Below A₀ base outer h₀ → Fr h₀ L s.heap m → K.In h₀ → News h₀ L s.heap news → Top p loose mean mg mb h₀ → cs.kind = .function →
    dp + d < recursionLimit → un + 8 * d < cLine →
    (∀ (r₁ r₂ : Int) (t₁ t₂ : Tok) (D : Addr) (h' : Heap) (tk' : Nat), P r₁ r₂ → Fr h₀ L h' m → News h₀ L h' ((D, ({ cls := .type "tuple", data := .seq [.int r₁ t₁, .int r₂ t₂].toArray } : Obj)) :: news) → (∀ p ∈ news, p.1 < D) → Q (.ref D) { s with heap := h', toks := tk' }) →
      wpAny (model prog w) (ktrTop dp un gd cn cs L a ccd cl outer) (call (.ref f) vs) Q E s
end Mine
namespace Mine
open PySem PySem.W PyProof.Rows
theorem dx_e {c e : Int} : (if e + ((Str.ofString (toString c)).length : Int) - 1 > 0 then e + ((Str.ofString (toString c)).length : Int) - 1 else 0) = ((dxE c e : Nat) : Int) := by
  have : ((Str.ofString (toString c)).length) = nd c := rfl
  rw [this]; unfold dxE
  split <;> omega
theorem dx_q {n ex : Nat} : (n : Int) + (ex : Int) = ((n + ex : Nat) : Int) := by omega
theorem dx_c1 {n : Nat} {c e S : Int} (hS : e + ((n + dxE c e : Nat) : Int) = S) (h : 0 ≤ S) : c * 10 ^ S.toNat = dxC n c e := by
  unfold dxC; rw [hS, if_pos h]
theorem dx_c2 {n : Nat} {c e S : Int} (hS : e + ((n + dxE c e : Nat) : Int) = S) (h : ¬ 0 ≤ S) : c.fdiv (10 ^ (-S).toNat) = dxC n c e := by
  unfold dxC; rw [hS, if_neg h, Int.fdiv_eq_ediv_of_nonneg _ (Int.le_of_lt (Int.pow_pos (by decide)))]
theorem dx_r {n : Nat} {c e : Int} (hl : 0 < l10 (n + dxE c e)) : divN ((dxC n c e).fmod (l10 ((n + dxE c e : Nat) : Int).toNat)) (10 ^ ((dxE c e : Nat) : Int).toNat) = dxR n c e := by
  unfold dxR
  rw [Int.toNat_natCast, Int.toNat_natCast, Int.fmod_eq_emod_of_nonneg _ (by omega)]
theorem dx_end {n : Nat} {c e E : Int} (hl : 0 < l10 (n + dxE c e)) (hE : IsIexp n (dxR n c e) (10 ^ (n : Int).toNat) E) : IsDexp n c e (divN E 1000) ((dxC n c e).fdiv (l10 ((n + dxE c e : Nat) : Int).toNat) - (n : Int) + 3) := by
  refine ⟨E, hE, rfl, ?_⟩
  rw [Int.toNat_natCast, Int.fdiv_eq_ediv_of_nonneg _ (by omega)]
end Mine
namespace Mine
open PySem PySem.W PyProof.Rows
theorem con_retP {h₀ h' : Heap} {L D : Addr} {m : Str → Option Value} {news news' : List (Addr × Obj)} {s : Shared} {Q : Value → Shared → Prop} {P : Int → Int → Prop} {r₁ r₂ : Int} {t₁ t₂ : Tok} {tk' : Nat}
   (hret : ∀ (r₁ r₂ : Int) (t₁ t₂ : Tok) (D : Addr) (h' : Heap) (tk' : Nat), P r₁ r₂ → Fr h₀ L h' m → News h₀ L h' ((D, ({ cls := .type "tuple", data := .seq [.int r₁ t₁, .int r₂ t₂].toArray } : Obj)) :: news) → (∀ p ∈ news, p.1 < D) → Q (.ref D) { s with heap := h', toks := tk' })
   (hp : P r₁ r₂) (F : Fr h₀ L h' m) (N : News h₀ L h' news') (hs1 : (D, ({ cls := .type "tuple", data := .seq [.int r₁ t₁, .int r₂ t₂].toArray } : Obj)) ∈ news') (hl : ∀ p ∈ news, p.1 < D) (hs : ∀ p ∈ news, p ∈ news') : Q (.ref D) { s with heap := h', toks := tk' } :=
  hret _ _ _ _ _ _ _ hp F (fun p hp => N p (by rcases List.mem_cons.mp hp with rfl | hp; exact hs1; exact hs p hp)) hl
end Mine
namespace Mine
open PySem PySem.W PyProof.Rows
theorem allLt_to {d : Nat} : ∀ {l : List (Addr × Obj)}, AllLt d l → ∀ p ∈ l, p.1 < d
  | [], _, _, h => nomatch h
  | _ :: _, h, p, hp => by
    rcases List.mem_cons.mp hp with rfl | hp
    · exact h.1
    · exact allLt_to h.2 p hp
end Mine

end
end
section
namespace Mine
/-! the reductions of _ilog against the logarithm -/
section
variable {M x y s : Int} {R : Nat}
theorem c2pos (R : Nat) : (0 : Rat) < 2 ^ R := Rat.pow_pos (by decide)
theorem cast_two_pow (R : Nat) : (((2 : Int) ^ R : Int) : Rat) = (2 : Rat) ^ R := by
  rw [Rat.intCast_pow]; rfl
/-- divN in the rationals -/
theorem divN_rat (a : Int) {b : Int} (hb : 0 < b) : -(1 / 2 : Rat) ≤ (divN a b : Rat) - (a : Rat) / b ∧ (divN a b : Rat) - (a : Rat) / b ≤ 1 / 2 := by
  obtain ⟨h1, h2⟩ := divN_bounds a hb
  have hb' : (0 : Rat) < b := by exact_mod_cast hb
  have g1 : (2 : Rat) * a - b ≤ 2 * (divN a b * b) := by exact_mod_cast h1
  have g2 : (2 : Rat) * (divN a b * b) ≤ 2 * a + b := by exact_mod_cast h2
  have e := fld3 (A := (b : Rat)) (B := (a : Rat)) hb'
  generalize (divN a b : Rat) = d at *
  generalize (a : Rat) / b = q at *
  constructor
  · rcases rlt_or_le (d - q) (-(1 / 2)) with h | h
    · have := Rat.mul_lt_mul_of_pos_right h hb'
      grind
    · exact h
  · rcases rlt_or_le (1 / 2) (d - q) with h | h
    · have := Rat.mul_lt_mul_of_pos_right h hb'
      grind
    · exact h
end
/-- one reduction in the rationals: v, w = s / M, v' -/
theorem red_core {m v w v' r a δ κ : Rat} (hm : 0 < m) (hw : 0 < w) (ha : a * (1 + w) = v) (hv' : v' = a + δ) 
    (hr1 : -κ ≤ r - v) (hr2 : r - v ≤ κ) (hs1 : w * w - 1 - r ≤ w / m) (hs2 : -(w / m) ≤ w * w - 1 - r) :
    ∃ η : Rat, (1 + v) - (1 + v') * (1 + v') = a * η - 2 * (1 + v') * δ + δ * δ ∧ -(w / m + κ) ≤ η * (1 + w) ∧ η * (1 + w) ≤ w / m + κ := by
  refine ⟨(w * w - 1 - v) / (1 + w), ?_, ?_, ?_⟩
  · subst hv'
    have hw1 : 1 + w ≠ 0 := by grind
    have e : a * ((w * w - 1 - v) / (1 + w)) = a * (w - 1 - a) := by
      rw [← ha]
      grind
    rw [e, ← ha]
    grind
  · have : (w * w - 1 - v) / (1 + w) * (1 + w) = w * w - 1 - v := fld3 (by grind)
    grind
  · have : (w * w - 1 - v) / (1 + w) * (1 + w) = w * w - 1 - v := fld3 (by grind)
    grind
end Mine

end
section
namespace Mine
/-- v = y / (2^R M) -/
def vr (M : Int) (R : Nat) (y : Int) : Rat := (y : Rat) / (2 ^ R * M)
theorem rabs_mul {a b A B : Rat} (h1 : -A ≤ a) (h2 : a ≤ A) (h3 : -B ≤ b) (h4 : b ≤ B) : -(A * B) ≤ a * b ∧ a * b ≤ A * B := by
  have c1 := Rat.mul_nonneg (show 0 ≤ A - a by grind) (show 0 ≤ B - b by grind)
  have c2 := Rat.mul_nonneg (show 0 ≤ A - a by grind) (show 0 ≤ B + b by grind)
  have c3 := Rat.mul_nonneg (show 0 ≤ A + a by grind) (show 0 ≤ B - b by grind)
  have c4 := Rat.mul_nonneg (show 0 ≤ A + a by grind) (show 0 ≤ B + b by grind)
  constructor <;> grind
theorem divN_one (y : Int) : divN y 1 = y := by
  unfold divN
  rw [Int.ediv_one, Int.emod_one]
  split
  · omega
  · omega
theorem fld4 {P m t y' z : Rat} (hP : 0 < P) (hm : 0 < m) (ht : 0 < t) : 4 * (P * m) * (y' / (P * 2 * m) - z / (P * m) / (1 + t / m)) = 2 * (y' - m * z * 2 / (m + t)) := by
  have h1 : P ≠ 0 := by grind
  have h2 : m ≠ 0 := by grind
  have h3 : m + t ≠ 0 := by grind
  have h4 : 1 + t / m ≠ 0 := by
    have := rdiv_pos ht hm
    grind
  have e1 : 4 * (P * m) * (y' / (P * 2 * m)) = 2 * y' := by grind
  have e2 : (1 + t / m) * m = m + t := by grind
  have e3 : z / (P * m) / (1 + t / m) * ((P * m) * (m + t)) = m * z := by
    rw [← e2]
    have : z / (P * m) / (1 + t / m) * (1 + t / m) = z / (P * m) := by grind
    have k : z / (P * m) / (1 + t / m) * (P * m * ((1 + t / m) * m)) = (z / (P * m) / (1 + t / m) * (1 + t / m)) * (P * m) * m := by grind
    rw [k, this]
    have : z / (P * m) * (P * m) = z := by
      have : P * m ≠ 0 := by grind
      grind
    rw [this]; grind
  have e4 : z / (P * m) / (1 + t / m) * (P * m) = m * z / (m + t) := by
    generalize z / (P * m) / (1 + t / m) = X at *
    grind
  have e5 : 4 * (P * m) * (z / (P * m) / (1 + t / m)) = 4 * (m * z / (m + t)) := by rw [← e4]; grind
  have e6 : m * z * 2 / (m + t) = 2 * (m * z / (m + t)) := by grind
  rw [e6]
  generalize y' / (P * 2 * m) = A at *
  generalize z / (P * m) / (1 + t / m) = B at *
  generalize m * z / (m + t) = D at *
  have e7 : 4 * (P * m) * (A - B) = 4 * (P * m) * A - 4 * (P * m) * B := by grind
  rw [e7, e1, e5]
  grind
/-- the facts of one reduction -/
theorem step_facts {M y s : Int} {R : Nat} (hM : 0 < M) (hs : IsSq (M * (M + divN y (2 ^ R))) s) (κ : Rat) (hκ : κ = 1 / 2 ∨ (R = 0 ∧ κ = 0)) :
    ∃ a δ η : Rat, vr M (R + 1) (divN (M * y * 2) (M + s)) = a + δ ∧ -1 ≤ 4 * (2 ^ R * M) * δ ∧ 4 * (2 ^ R * M) * δ ≤ 1 ∧
      (1 + vr M R y) - (1 + vr M (R + 1) (divN (M * y * 2) (M + s))) * (1 + vr M (R + 1) (divN (M * y * 2) (M + s))) = a * η - 2 * (1 + vr M (R + 1) (divN (M * y * 2) (M + s))) * δ + δ * δ ∧
      -((s : Rat) / M + κ) ≤ η * (1 + (s : Rat) / M) * M ∧ η * (1 + (s : Rat) / M) * M ≤ (s : Rat) / M + κ := by
  have hm : (0 : Rat) < M := by exact_mod_cast hM
  have hs0 : (0 : Rat) < s := by exact_mod_cast hs.1
  have hP := c2pos R
  have hw : 0 < (s : Rat) / M := rdiv_pos hs0 hm
  have d1 := divN_rat (M * y * 2) (b := M + s) (by have := hs.1; omega)
  -- the root
  have q1 : (s : Rat) * s - s ≤ M * (M + divN y (2 ^ R)) := by
    have := hs.2.1
    have h : s * s - s ≤ M * (M + divN y (2 ^ R)) := by omega
    exact_mod_cast h
  have q2 : (M : Rat) * (M + divN y (2 ^ R)) ≤ (s : Rat) * s + s := by exact_mod_cast hs.2.2
  have hr : -κ ≤ (divN y (2 ^ R) : Rat) - (y : Rat) / 2 ^ R ∧ (divN y (2 ^ R) : Rat) - (y : Rat) / 2 ^ R ≤ κ := by
    rcases hκ with h | ⟨h0, h⟩
    · have := divN_rat y (b := 2 ^ R) (Int.pow_pos (by decide))
      rw [cast_two_pow] at this
      rw [h]
      constructor <;> grind
    · subst h0 h
      rw [show (2 : Int) ^ 0 = 1 from rfl, divN_one, Rat.pow_zero]
      constructor <;> grind
  generalize (divN y (2 ^ R) : Rat) = ρ at *
  generalize hy' : (divN (M * y * 2) (M + s) : Rat) = y' at *
  have eM : (((M * y * 2 : Int) : Rat)) = M * y * 2 := by push_cast; rfl
  have eS : (((M + s : Int) : Rat)) = M + s := by push_cast; rfl
  rw [eM, eS] at d1
  unfold vr
  rw [hy', Rat.pow_succ]
  generalize (2 : Rat) ^ R = P at *
  generalize (M : Rat) = m at *
  generalize (s : Rat) = t at *
  generalize (y : Rat) = z at *
  have hm0 : m ≠ 0 := by grind
  have hP0 : P ≠ 0 := by grind
  have hPm : 0 < P * m := Rat.mul_pos hP hm
  have hw1 : 0 < 1 + t / m := by grind
  have core := red_core (m := m) (v := z / (P * m)) (w := t / m) (v' := y' / (P * 2 * m)) (r := ρ / m) (a := z / (P * m) / (1 + t / m)) (δ := y' / (P * 2 * m) - z / (P * m) / (1 + t / m)) (κ := κ / m) hm hw (fld3 hw1) (by grind)
    (by
      have e : ρ / m - z / (P * m) = (ρ - z / P) / m := by grind
      rw [e]
      refine le_rdiv hm ?_
      have : -(κ / m) * m = -κ := by grind
      grind)
    (by
      have e : ρ / m - z / (P * m) = (ρ - z / P) / m := by grind
      rw [e]
      refine rdiv_le hm ?_
      have : κ / m * m = κ := by grind
      grind)
    (by
      have e : t / m * (t / m) - 1 - ρ / m = (t * t - m * (m + ρ)) / (m * m) := by grind
      rw [e]
      refine rdiv_le (Rat.mul_pos hm hm) ?_
      have : t / m / m * (m * m) = t := by grind
      grind)
    (by
      have e : t / m * (t / m) - 1 - ρ / m = (t * t - m * (m + ρ)) / (m * m) := by grind
      rw [e]
      refine le_rdiv (Rat.mul_pos hm hm) ?_
      have : -(t / m / m) * (m * m) = -t := by grind
      grind)
  obtain ⟨η, c1, c2, c3⟩ := core
  refine ⟨z / (P * m) / (1 + t / m), y' / (P * 2 * m) - z / (P * m) / (1 + t / m), η, by grind, ?_, ?_, c1, ?_, ?_⟩
  · rw [fld4 hP hm hs0]; grind
  · rw [fld4 hP hm hs0]; grind
  · have h := Rat.mul_le_mul_of_nonneg_right c2 (Rat.le_of_lt hm)
    have e : -(t / m / m + κ / m) * m = -(t / m + κ) := by grind
    grind
  · have h := Rat.mul_le_mul_of_nonneg_right c3 (Rat.le_of_lt hm)
    have e : (t / m / m + κ / m) * m = t / m + κ := by grind
    grind
end Mine

end
section
namespace Mine
theorem rpow_add (a : Rat) (m : Nat) : ∀ n : Nat, a ^ (m + n) = a ^ m * a ^ n
  | 0 => by rw [Nat.add_zero, Rat.pow_zero, Rat.mul_one]
  | n + 1 => by rw [← Nat.add_assoc, Rat.pow_succ, Rat.pow_succ, rpow_add a m n]; grind
def Qr (x M : Int) (R : Nat) (y : Int) : Rat := ((x : Rat) / M) / (1 + vr M R y) ^ (2 ^ R : Nat)
/-- log (x / M) lies within A of 2^R log (1 + v) -/
def IlInv (x M : Int) (R : Nat) (y : Int) (A : Rat) : Prop := 0 < 1 + vr M R y ∧ Lg (-A) (Qr x M R y) ∧ Ug A (Qr x M R y)
theorem IlInv.zero {x M : Int} (hM : 0 < M) (hx : 0 < x) : IlInv x M 0 (x - M) 0 := by
  have hm : (0 : Rat) < M := by exact_mod_cast hM
  have hx' : (0 : Rat) < x := by exact_mod_cast hx
  have e : 1 + vr M 0 (x - M) = (x : Rat) / M := by
    unfold vr
    rw [Rat.pow_zero]
    have : (((x - M : Int)) : Rat) = x - M := by push_cast; rfl
    rw [this]
    have : (M : Rat) ≠ 0 := by grind
    grind
  have hp : 0 < (x : Rat) / M := rdiv_pos hx' hm
  have q : Qr x M 0 (x - M) = 1 := by
    unfold Qr
    rw [e, show (2 : Nat) ^ 0 = 1 from rfl, Rat.pow_succ, Rat.pow_zero]
    have : (x : Rat) / M ≠ 0 := by grind
    grind
  refine ⟨by rw [e]; exact hp, ?_, ?_⟩
  · rw [q]; exact Lg.zero.mono (by grind) (by grind)
  · rw [q]; exact Ug.zero
theorem IlInv.step {x M y y' : Int} {R : Nat} {A n l : Rat} (h : IlInv x M R y A) (hv' : 0 < 1 + vr M (R + 1) y') (hl : 0 < l) (hn : 0 ≤ n) (l1 : l ≤ 1 + vr M R y) (l2 : l ≤ (1 + vr M (R + 1) y') * (1 + vr M (R + 1) y'))
    (h1 : -n ≤ (1 + vr M R y) - (1 + vr M (R + 1) y') * (1 + vr M (R + 1) y')) (h2 : (1 + vr M R y) - (1 + vr M (R + 1) y') * (1 + vr M (R + 1) y') ≤ n) : IlInv x M (R + 1) y' (A + 2 ^ R * (n / l)) := by
  obtain ⟨h0, hL, hU⟩ := h
  generalize ha : 1 + vr M R y = a at *
  generalize hb : 1 + vr M (R + 1) y' = b at *
  have hbb : 0 < b * b := Rat.mul_pos hv' hv'
  have hρ : 0 < a / (b * b) := rdiv_pos h0 hbb
  have hnl : 0 ≤ n / l := le_rdiv hl (by grind)
  have nl : n / l * l = n := fld3 hl
  have bL : Lg (-(n / l)) (a / (b * b)) := by
    refine (Lg.basic (t := b * b / a) (rdiv_pos hbb h0) ?_).mono ?_ Rat.le_refl
    · rw [rdiv_mul hbb]
      have : a / a = 1 := by have : a ≠ 0 := by grind
                             grind
      grind
    · have : b * b / a ≤ 1 + n / l := by
        refine rdiv_le h0 ?_
        have := Rat.mul_nonneg hnl (show 0 ≤ a - l by grind)
        grind
      grind
  have bU : Ug (n / l) (a / (b * b)) := by
    refine (Ug.basic hρ).mono ?_ Rat.le_refl
    have : a / (b * b) ≤ 1 + n / l := by
      refine rdiv_le hbb ?_
      have := Rat.mul_nonneg hnl (show 0 ≤ b * b - l by grind)
      grind
    grind
  have eQ : Qr x M (R + 1) y' = Qr x M R y * (a / (b * b)) ^ (2 ^ R : Nat) := by
    unfold Qr
    rw [ha, hb]
    have e1 : b ^ (2 ^ (R + 1) : Nat) = (b * b) ^ (2 ^ R : Nat) := by
      rw [rmul_pow, ← rpow_add]
      congr 1
      rw [Nat.pow_succ]; omega
    have e2 : a ^ (2 ^ R : Nat) = (a / (b * b)) ^ (2 ^ R : Nat) * (b * b) ^ (2 ^ R : Nat) := by
      rw [← rmul_pow, fld3 hbb]
    rw [e1, e2]
    have p1 : (a / (b * b)) ^ (2 ^ R : Nat) ≠ 0 := by have := rpow_pos hρ (2 ^ R); grind
    have p2 : (b * b) ^ (2 ^ R : Nat) ≠ 0 := by have := rpow_pos hbb (2 ^ R); grind
    generalize (a / (b * b)) ^ (2 ^ R : Nat) = U at *
    generalize (b * b) ^ (2 ^ R : Nat) = V at *
    generalize (x : Rat) / M = X at *
    grind
  have cst : (((2 ^ R : Nat)) : Rat) = (2 : Rat) ^ R := by push_cast; rfl
  refine ⟨by rw [hb]; exact hv', ?_, ?_⟩
  · rw [eQ]
    refine (Lg.add hL (Lg.pow bL (2 ^ R))).mono ?_ Rat.le_refl
    rw [cst]; grind
  · rw [eQ]
    refine (Ug.add (rpow_pos hρ _) hU (Ug.pow hρ bU (2 ^ R))).mono ?_ Rat.le_refl
    rw [cst]; grind
/-- what comes of it: log (x / M) from 2^R log (1 + v) -/
theorem IlInv.lo {x M y : Int} {R : Nat} {A r : Rat} (h : IlInv x M R y A) (hr : Lg r (1 + vr M R y)) : Lg (2 ^ R * r - A) ((x : Rat) / M) := by
  obtain ⟨h0, hL, hU⟩ := h
  have p := rpow_pos h0 (2 ^ R)
  have e : Qr x M R y * (1 + vr M R y) ^ (2 ^ R : Nat) = (x : Rat) / M := fld3 p
  have cst : (((2 ^ R : Nat)) : Rat) = (2 : Rat) ^ R := by push_cast; rfl
  have k := Lg.add hL (Lg.pow hr (2 ^ R))
  rw [e, cst] at k
  exact k.mono (by grind) Rat.le_refl
theorem IlInv.hi {x M y : Int} {R : Nat} {A r : Rat} (h : IlInv x M R y A) (hr : Ug r (1 + vr M R y)) : Ug (2 ^ R * r + A) ((x : Rat) / M) := by
  obtain ⟨h0, hL, hU⟩ := h
  have p := rpow_pos h0 (2 ^ R)
  have e : Qr x M R y * (1 + vr M R y) ^ (2 ^ R : Nat) = (x : Rat) / M := fld3 p
  have cst : (((2 ^ R : Nat)) : Rat) = (2 : Rat) ^ R := by push_cast; rfl
  have k := Ug.add p hU (Ug.pow h0 hr (2 ^ R))
  rw [e, cst] at k
  exact k.mono (by grind) Rat.le_refl
end Mine

end
section
namespace Mine
open PySem.W
theorem cast_k {M : Int} (h : 1000 ≤ M) : (1000 : Rat) ≤ M := by
  have := Rat.intCast_le_intCast.mpr h
  rwa [show (((1000 : Int)) : Rat) = 1000 from rfl] at this
theorem downKs_succ (a : Int) (n : Nat) : downKs a (n + 1) = downKs a n ++ [a - n] := by
  unfold downKs
  rw [List.range_succ, List.map_append]; rfl
theorem horn_succ (M ys w a : Int) (n : Nat) : horn M ys w (downKs a (n + 1)) = divN M (a - n) - divN (ys * horn M ys w (downKs a n)) M := by
  rw [downKs_succ]; unfold horn; rw [List.foldl_append]; rfl
/-- the ideal Horner -/
def idU (v : Rat) (T : Nat) : Nat → Rat
  | 0 => 1 / (T : Rat)
  | i + 1 => 1 / ((T - 1 - i : Nat) : Rat) - v * idU v T i
theorem idU_lgS (v : Rat) (T : Nat) : ∀ i : Nat, i + 1 ≤ T → lgS v T - lgS v (T - 1 - i) = -((-v) ^ (T - i)) * idU v T i
  | 0, h => by
    obtain ⟨S, rfl⟩ : ∃ S, T = S + 1 := ⟨T - 1, by omega⟩
    simp only [idU, Nat.sub_zero, Nat.add_sub_cancel, lgS]
    push_cast
    grind
  | i + 1, h => by
    have ih := idU_lgS v T i (by omega)
    obtain ⟨S, hS⟩ : ∃ S, T - 1 - i = S + 1 := ⟨T - 1 - i - 1, by omega⟩
    have e1 : T - 1 - (i + 1) = S := by omega
    have e2 : T - (i + 1) = S + 1 := by omega
    have e3 : T - i = S + 1 + 1 := by omega
    rw [hS, e3] at ih
    rw [e1, e2]
    simp only [idU, hS]
    simp only [lgS] at ih
    rw [Rat.pow_succ (-v) (S + 1)] at ih
    push_cast at ih ⊢
    generalize (-v) ^ (S + 1) = X at *
    have hS0 : (S : Rat) + 1 ≠ 0 := by
      have : (0 : Rat) ≤ S := Rat.natCast_nonneg
      grind
    grind
theorem idU_one (v : Rat) {T : Nat} (hT : 1 ≤ T) : v * idU v T (T - 1) = lgS v T := by
  have := idU_lgS v T (T - 1) (by omega)
  rw [show T - 1 - (T - 1) = 0 by omega, show T - (T - 1) = 1 by omega, Rat.pow_succ, Rat.pow_zero] at this
  simp only [lgS] at this
  grind
theorem one_div_le {n : Nat} (hn : 2 ≤ n) : 0 ≤ 1 / (n : Rat) ∧ 1 / (n : Rat) ≤ 1 / 2 := by
  have h : (2 : Rat) ≤ n := by exact_mod_cast hn
  exact ⟨le_rdiv (by grind) (by grind), rdiv_le (by grind) (by grind)⟩
/-- the Horner loop of ints against the ideal one -/
theorem horn_err {M ys : Int} {v κ : Rat} {T : Nat} (hM : 1000 ≤ M) (hT : 2 ≤ T) (hv1 : -(1 / 256) ≤ v) (hv2 : v ≤ 1 / 256)
    (hk0 : 0 ≤ κ) (hk1 : κ ≤ 1 / 2) (hy1 : -κ ≤ (ys : Rat) - v * M) (hy2 : (ys : Rat) - v * M ≤ κ) : ∀ i : Nat, i + 2 ≤ T →
    -(3 / 2 : Rat) ≤ (horn M ys (divN M T) (downKs ((T : Int) - 1) i) : Rat) - M * idU v T i ∧ (horn M ys (divN M T) (downKs ((T : Int) - 1) i) : Rat) - M * idU v T i ≤ 3 / 2 ∧ -(13 / 25 : Rat) ≤ idU v T i ∧ idU v T i ≤ 13 / 25
  | 0, h => by
    have d := divN_rat M (b := (T : Int)) (by omega)
    have o := one_div_le hT
    have e : horn M ys (divN M T) (downKs ((T : Int) - 1) 0) = divN M T := rfl
    rw [e]
    simp only [idU]
    have e2 : (M : Rat) * (1 / (T : Rat)) = (M : Rat) / ((T : Int) : Rat) := by
      rw [Rat.intCast_natCast]
      grind
    rw [e2]
    refine ⟨?_, ?_, ?_, ?_⟩ <;> grind
  | i + 1, h => by
    obtain ⟨a, b, c, d⟩ := horn_err hM hT hv1 hv2 hk0 hk1 hy1 hy2 i (by omega)
    rw [horn_succ]
    have k1 : (T : Int) - 1 - i = ((T - 1 - i : Nat) : Int) := by omega
    rw [k1]
    have d1 := divN_rat M (b := ((T - 1 - i : Nat) : Int)) (by omega)
    have d2 := divN_rat (ys * horn M ys (divN M T) (downKs ((T : Int) - 1) i)) (b := M) (by omega)
    have o := one_div_le (n := T - 1 - i) (by omega)
    have hm := cast_k hM
    simp only [idU]
    generalize horn M ys (divN M T) (downKs ((T : Int) - 1) i) = w at *
    have ec : (((ys * w : Int)) : Rat) = ys * w := by push_cast; rfl
    rw [ec] at d2
    rw [Rat.intCast_natCast] at d1
    have esub : (((divN M ((T - 1 - i : Nat) : Int) - divN (ys * w) M : Int)) : Rat) = (divN M ((T - 1 - i : Nat) : Int) : Rat) - (divN (ys * w) M : Rat) := by push_cast; rfl
    rw [esub]
    generalize (divN M ((T - 1 - i : Nat) : Int) : Rat) = D1 at *
    generalize (divN (ys * w) M : Rat) = D2 at *
    generalize idU v T i = U at *
    generalize hn : ((T - 1 - i : Nat) : Rat) = n at *
    generalize (ys : Rat) = z at *
    generalize (w : Rat) = W at *
    generalize (M : Rat) = m at *
    have hn1 : m * (1 / n) = m / n := by grind
    have hm0 : m ≠ 0 := by grind
    -- z W / m = v m U + (z/m)(W - m U) + (z - v m) U
    have ez : z * W / m = v * m * U + z / m * (W - m * U) + (z - v * m) * U := by grind
    have hz1 : -(1 / 200 : Rat) ≤ z / m := le_rdiv (by grind) (by
      have := Rat.mul_nonneg (show (0 : Rat) ≤ v + 1 / 256 by grind) (show (0 : Rat) ≤ m by grind)
      grind)
    have hz2 : z / m ≤ 1 / 200 := rdiv_le (by grind) (by
      have := Rat.mul_nonneg (show (0 : Rat) ≤ 1 / 256 - v by grind) (show (0 : Rat) ≤ m by grind)
      grind)
    have p1 := rabs_mul hz1 hz2 a b
    have p2 := rabs_mul (A := 1 / 2) (B := 13 / 25) (show -(1 / 2) ≤ z - v * m by grind) (by grind) c d
    have p3 := rabs_mul hv1 hv2 c d
    have em : m * (1 / n - v * U) = m / n - v * m * U := by grind
    rw [em]
    rw [ez] at d2
    generalize z / m * (W - m * U) = X1 at *
    generalize (z - v * m) * U = X2 at *
    refine ⟨?_, ?_, ?_, ?_⟩ <;> grind
/-- the last turn, and the product -/
theorem tail_err {M ys y : Int} {v κ : Rat} {T R : Nat} (hM : 1000 ≤ M) (hT : 2 ≤ T) (hv1 : -(1 / 256) ≤ v) (hv2 : v ≤ 1 / 256) (hvy : v * (2 ^ R * M) = y)
    (hk0 : 0 ≤ κ) (hk1 : κ ≤ 1 / 2) (hy1 : -κ ≤ (ys : Rat) - v * M) (hy2 : (ys : Rat) - v * M ≤ κ) {Y : Rat} (hY1 : -Y ≤ (y : Rat)) (hY2 : (y : Rat) ≤ Y) :
    -(1 / 2 + (51 / 100 + 13 / 25 * κ) * (Y / M)) ≤ (divN (horn M ys (divN M T) (downKs ((T : Int) - 1) (T - 1)) * y) M : Rat) - 2 ^ R * M * lgS v T ∧
    (divN (horn M ys (divN M T) (downKs ((T : Int) - 1) (T - 1)) * y) M : Rat) - 2 ^ R * M * lgS v T ≤ 1 / 2 + (51 / 100 + 13 / 25 * κ) * (Y / M) := by
  obtain ⟨a, b, c, d⟩ := horn_err hM hT hv1 hv2 hk0 hk1 hy1 hy2 (T - 2) (by omega)
  obtain ⟨S, rfl⟩ : ∃ S, T = S + 2 := ⟨T - 2, by omega⟩
  rw [show S + 2 - 1 = S + 1 by omega, horn_succ]
  rw [show S + 2 - 2 = S by omega] at a b c d
  have k1 : ((S + 2 : Nat) : Int) - 1 - (S : Nat) = 1 := by omega
  rw [k1, divN_one]
  have hI := idU_one v (T := S + 2) (by omega)
  rw [show S + 2 - 1 = S + 1 by omega] at hI
  have hm := cast_k hM
  simp only [idU] at hI
  rw [show S + 2 - 1 - S = 1 by omega] at hI
  generalize horn M ys (divN M ((S + 2 : Nat) : Int)) (downKs (((S + 2 : Nat) : Int) - 1) S) = w at *
  generalize idU v (S + 2) S = U at *
  have d2 := divN_rat (ys * w) (b := M) (by omega)
  have d3 := divN_rat ((M - divN (ys * w) M) * y) (b := M) (by omega)
  have ec : (((ys * w : Int)) : Rat) = ys * w := by push_cast; rfl
  rw [ec] at d2
  have ec2 : ((((M - divN (ys * w) M) * y : Int)) : Rat) = (M - divN (ys * w) M) * y := by push_cast; rfl
  rw [ec2] at d3
  generalize (divN ((M - divN (ys * w) M) * y) M : Rat) = D at *
  generalize (divN (ys * w) M : Rat) = D2 at *
  rw [← hI, show (((1 : Nat)) : Rat) = 1 from rfl]
  have e4 : 2 ^ R * M * (v * (1 / 1 - v * U)) = (v * (2 ^ R * M)) * (1 - v * U) := by grind
  rw [e4, hvy]
  generalize (y : Rat) = q at *
  generalize (ys : Rat) = z at *
  generalize (w : Rat) = W at *
  generalize (M : Rat) = m at *
  have hm0 : m ≠ 0 := by grind
  have ez : z * W / m = v * m * U + z / m * (W - m * U) + (z - v * m) * U := by grind
  have hz1 : -(1 / 200 : Rat) ≤ z / m := le_rdiv (by grind) (by
    have := Rat.mul_nonneg (show (0 : Rat) ≤ v + 1 / 256 by grind) (show (0 : Rat) ≤ m by grind)
    grind)
  have hz2 : z / m ≤ 1 / 200 := rdiv_le (by grind) (by
    have := Rat.mul_nonneg (show (0 : Rat) ≤ 1 / 256 - v by grind) (show (0 : Rat) ≤ m by grind)
    grind)
  have p1 := rabs_mul hz1 hz2 a b
  have p2 := rabs_mul hy1 hy2 c d
  rw [ez] at d2
  -- m - D2 = m (1 - v U) + small
  have hE1 : -(51 / 100 + 13 / 25 * κ) ≤ (m - D2) - m * (1 - v * U) := by grind
  have hE2 : (m - D2) - m * (1 - v * U) ≤ 51 / 100 + 13 / 25 * κ := by grind
  have hq1 : -(Y / m) ≤ q / m := by
    refine le_rdiv (by grind) ?_
    have : Y / m * m = Y := fld3 (by grind)
    grind
  have hq2 : q / m ≤ Y / m := by
    refine rdiv_le (by grind) ?_
    have : Y / m * m = Y := fld3 (by grind)
    grind
  have p3 := rabs_mul hE1 hE2 hq1 hq2
  have e5 : (m - D2) * q / m = q * (1 - v * U) + ((m - D2) - m * (1 - v * U)) * (q / m) := by grind
  rw [e5] at d3
  generalize ((m - D2) - m * (1 - v * U)) * (q / m) = X at *
  constructor <;> grind
end Mine

end
section
namespace Mine
open PySem.W
theorem vr_eq {M y : Int} {R : Nat} (hM : 0 < M) : vr M R y * (2 ^ R * M) = y := by
  have hm : (0 : Rat) < M := by exact_mod_cast hM
  exact fld3 (Rat.mul_pos (c2pos R) hm)
theorem step_N {M y s : Int} {R : Nat} {θ κ Y : Rat} (hM : 0 < M) (hs : IsSq (M * (M + divN y (2 ^ R))) s) (hκ : κ = 1 / 2 ∨ (R = 0 ∧ κ = 0))
    (hθ : (s : Rat) / M + κ ≤ θ * (1 + (s : Rat) / M)) (hY1 : -Y ≤ (divN (M * y * 2) (M + s) : Rat)) (hY2 : (divN (M * y * 2) (M + s) : Rat) ≤ Y)
    (hv' : 0 < 1 + vr M (R + 1) (divN (M * y * 2) (M + s))) :
    -(θ * (Y / (2 * M) + 1 / (4 * M)) + (1 + vr M (R + 1) (divN (M * y * 2) (M + s))) / 2 + 1 / (16 * M)) ≤ 2 ^ R * M * ((1 + vr M R y) - (1 + vr M (R + 1) (divN (M * y * 2) (M + s))) * (1 + vr M (R + 1) (divN (M * y * 2) (M + s)))) ∧
    2 ^ R * M * ((1 + vr M R y) - (1 + vr M (R + 1) (divN (M * y * 2) (M + s))) * (1 + vr M (R + 1) (divN (M * y * 2) (M + s)))) ≤ θ * (Y / (2 * M) + 1 / (4 * M)) + (1 + vr M (R + 1) (divN (M * y * 2) (M + s))) / 2 + 1 / (16 * M) := by
  obtain ⟨a, δ, η, f1, f2, f3, f4, f5, f6⟩ := step_facts hM hs κ hκ
  have hm : (0 : Rat) < M := by exact_mod_cast hM
  have hs0 : (0 : Rat) < s := by exact_mod_cast hs.1
  have hw : 0 < (s : Rat) / M := rdiv_pos hs0 hm
  have hP := c2pos R
  have hP1 : (1 : Rat) ≤ 2 ^ R := by
    have : ∀ R : Nat, (1 : Rat) ≤ 2 ^ R := by
      intro R
      induction R with
      | zero => rw [Rat.pow_zero]; grind
      | succ R ih => rw [Rat.pow_succ]; grind
    exact this R
  have ev := vr_eq (R := R + 1) (y := divN (M * y * 2) (M + s)) hM
  rw [Rat.pow_succ] at ev
  generalize hy' : divN (M * y * 2) (M + s) = y' at *
  generalize hvv : vr M (R + 1) y' = v' at *
  have hm2 : 0 < (2 : Rat) ^ R * M := Rat.mul_pos hP hm
  have hw1 : 0 < 1 + (s : Rat) / M := by grind
  -- |η| m ≤ θ
  have hη1 : -θ ≤ η * M := by
    rcases rlt_or_le (η * M) (-θ) with g | g
    · have := Rat.mul_lt_mul_of_pos_right g hw1
      grind
    · exact g
  have hη2 : η * M ≤ θ := by
    rcases rlt_or_le θ (η * M) with g | g
    · have := Rat.mul_lt_mul_of_pos_right g hw1
      grind
    · exact g
  -- P |a|
  have ha : a = v' - δ := by grind
  have hPa1 : -(Y / (2 * M) + 1 / (4 * M)) ≤ 2 ^ R * a := by
    have e1 : 2 ^ R * v' = (y' : Rat) / (2 * M) := by rw [← ev]; grind
    have e2 : (-Y) / (2 * M) ≤ (y' : Rat) / (2 * M) := by
      refine le_rdiv (by grind) ?_
      have : -Y / (2 * M) * (2 * (M : Rat)) = -Y := fld3 (by grind)
      grind
    have e3 : 2 ^ R * δ ≤ 1 / (4 * M) := by
      refine le_rdiv (by grind) ?_
      grind
    have e4 : (-Y) / (2 * M) = -(Y / (2 * M)) := by grind
    rw [ha]; grind
  have hPa2 : 2 ^ R * a ≤ Y / (2 * M) + 1 / (4 * M) := by
    have e1 : 2 ^ R * v' = (y' : Rat) / (2 * M) := by rw [← ev]; grind
    have e2 : (y' : Rat) / (2 * M) ≤ Y / (2 * M) := by
      refine rdiv_le (by grind) ?_
      have : Y / (2 * M) * (2 * (M : Rat)) = Y := fld3 (by grind)
      grind
    have e3 : -(1 / (4 * M)) ≤ 2 ^ R * δ := by
      rcases rlt_or_le (2 ^ R * δ) (-(1 / (4 * (M : Rat)))) with g | g
      · have := Rat.mul_lt_mul_of_pos_right g (show (0 : Rat) < 4 * M by grind)
        have : 1 / (4 * (M : Rat)) * (4 * M) = 1 := fld3 (by grind)
        grind
      · exact g
    rw [ha]; grind
  have p1 := rabs_mul hPa1 hPa2 hη1 hη2
  have p2 := rabs_mul (a := 1 + v') (A := 1 + v') (b := 4 * (2 ^ R * M) * δ) (B := 1) (by grind) Rat.le_refl (by grind) f3
  have p3 : 2 ^ R * M * (δ * δ) ≤ 1 / (16 * M) := by
    refine le_rdiv (by grind) ?_
    have q1 := rabs_mul (a := 4 * (2 ^ R * M) * δ) (A := 1) (b := 4 * (2 ^ R * M) * δ) (B := 1) (by grind) f3 (by grind) f3
    have q2 := rsq_nonneg δ
    have q3 : 2 ^ R * M * (δ * δ) * (16 * M) * 2 ^ R = (4 * (2 ^ R * M) * δ) * (4 * (2 ^ R * M) * δ) := by grind
    have q4 : 0 ≤ 2 ^ R * M * (δ * δ) * (16 * M) := Rat.mul_nonneg (Rat.mul_nonneg (Rat.le_of_lt hm2) q2) (by grind)
    have q5 := Rat.mul_nonneg q4 (show (0 : Rat) ≤ 2 ^ R - 1 by grind)
    grind
  have p4 : 0 ≤ 2 ^ R * M * (δ * δ) := Rat.mul_nonneg (Rat.le_of_lt hm2) (rsq_nonneg δ)
  generalize hB : θ * (Y / (2 * M) + 1 / (4 * M)) + (1 + v') / 2 + 1 / (16 * (M : Rat)) = B
  have hN1 : -B ≤ 2 ^ R * M * ((1 + vr M R y) - (1 + v') * (1 + v')) := by
    rw [f4]
    have : 2 ^ R * M * (a * η - 2 * (1 + v') * δ + δ * δ) = 2 ^ R * a * (η * M) - (1 + v') * (4 * (2 ^ R * M) * δ) / 2 + 2 ^ R * M * (δ * δ) := by grind
    rw [this]; grind
  have hN2 : 2 ^ R * M * ((1 + vr M R y) - (1 + v') * (1 + v')) ≤ B := by
    rw [f4]
    have : 2 ^ R * M * (a * η - 2 * (1 + v') * δ + δ * δ) = 2 ^ R * a * (η * M) - (1 + v') * (4 * (2 ^ R * M) * δ) / 2 + 2 ^ R * M * (δ * δ) := by grind
    rw [this]; grind
  exact ⟨hN1, hN2⟩
theorem step_gen {x M y s : Int} {R : Nat} {A θ κ Y l : Rat} (hM : 0 < M) (h : IlInv x M R y A) (hs : IsSq (M * (M + divN y (2 ^ R))) s) (hκ : κ = 1 / 2 ∨ (R = 0 ∧ κ = 0))
    (hθ : (s : Rat) / M + κ ≤ θ * (1 + (s : Rat) / M)) (hY1 : -Y ≤ (divN (M * y * 2) (M + s) : Rat)) (hY2 : (divN (M * y * 2) (M + s) : Rat) ≤ Y)
    (hv' : 0 < 1 + vr M (R + 1) (divN (M * y * 2) (M + s))) (hl : 0 < l) (l1 : l ≤ 1 + vr M R y) (l2 : l ≤ (1 + vr M (R + 1) (divN (M * y * 2) (M + s))) * (1 + vr M (R + 1) (divN (M * y * 2) (M + s)))) :
    IlInv x M (R + 1) (divN (M * y * 2) (M + s)) (A + (θ * (Y / (2 * M) + 1 / (4 * M)) + (1 + vr M (R + 1) (divN (M * y * 2) (M + s))) / 2 + 1 / (16 * M)) / (l * M)) := by
  obtain ⟨hN1, hN2⟩ := step_N hM hs hκ hθ hY1 hY2 hv'
  have hm : (0 : Rat) < M := by exact_mod_cast hM
  have hP := c2pos R
  have hm2 : 0 < (2 : Rat) ^ R * M := Rat.mul_pos hP hm
  generalize divN (M * y * 2) (M + s) = y' at *
  generalize hB : θ * (Y / (2 * M) + 1 / (4 * M)) + (1 + vr M (R + 1) y') / 2 + 1 / (16 * (M : Rat)) = B at *
  have hB0 : 0 ≤ B := by grind
  have st := IlInv.step (n := B / (2 ^ R * M)) h hv' hl (le_rdiv hm2 (by grind)) l1 l2 (by
      rcases rlt_or_le (1 + vr M R y - (1 + vr M (R + 1) y') * (1 + vr M (R + 1) y')) (-(B / (2 ^ R * M))) with g | g
      · have := Rat.mul_lt_mul_of_pos_right g hm2
        have : B / (2 ^ R * M) * (2 ^ R * M) = B := fld3 hm2
        grind
      · exact g) (le_rdiv hm2 (by grind))
  have e9 : 2 ^ R * (B / (2 ^ R * M) / l) = B / (l * M) := by
    have : (2 : Rat) ^ R ≠ 0 := by grind
    have : (M : Rat) ≠ 0 := by grind
    have : l ≠ 0 := by grind
    grind
  rw [e9] at st
  exact st
end Mine

end
section
namespace Mine
open PySem.W
theorem tays_two {p : Nat} (hp : 3 ≤ p) : 2 ≤ tays p := by unfold tays; omega
/-- 10 M is no more than 256^T -/
theorem tays_big (p : Nat) : (10 : Nat) ^ (p + 1) ≤ 256 ^ tays p := by
  have h : 10 * (p + 1) ≤ 24 * tays p := by unfold tays; omega
  have h1 : (10 ^ (p + 1)) ^ 3 ≤ ((256 : Nat) ^ tays p) ^ 3 := by
    have a1 : ((10 : Nat) ^ (p + 1)) ^ 3 = 1000 ^ (p + 1) := by rw [← Nat.pow_mul, Nat.mul_comm, Nat.pow_mul]
    have a2 : (1000 : Nat) ^ (p + 1) ≤ 1024 ^ (p + 1) := Nat.pow_le_pow_left (by decide) _
    have a3 : (1024 : Nat) ^ (p + 1) = 2 ^ (10 * (p + 1)) := by rw [Nat.pow_mul]
    have a4 : (2 : Nat) ^ (10 * (p + 1)) ≤ 2 ^ (24 * tays p) := Nat.pow_le_pow_right (by decide) h
    have a5 : (2 : Nat) ^ (24 * tays p) = (256 ^ tays p) ^ 3 := by
      rw [show (256 : Nat) = 2 ^ 8 from rfl, ← Nat.pow_mul, ← Nat.pow_mul]; congr 1; omega
    omega
  rcases Nat.lt_or_ge (256 ^ tays p) (10 ^ (p + 1)) with g | g
  · exfalso
    have := Nat.pow_lt_pow_left g (show 3 ≠ 0 by decide)
    omega
  · exact g
theorem rpow_le {a b : Rat} (h0 : 0 ≤ a) (h : a ≤ b) : ∀ n : Nat, a ^ n ≤ b ^ n ∧ 0 ≤ a ^ n
  | 0 => by rw [Rat.pow_zero, Rat.pow_zero]; grind
  | n + 1 => by
    obtain ⟨h1, h2⟩ := rpow_le h0 h n
    rw [Rat.pow_succ, Rat.pow_succ]
    have k1 := Rat.mul_nonneg (show 0 ≤ b ^ n - a ^ n by grind) (show 0 ≤ b by grind)
    have k2 := Rat.mul_nonneg h2 (show 0 ≤ b - a by grind)
    have k3 := Rat.mul_nonneg h2 h0
    constructor <;> grind
/-- what is cut off the series -/
theorem trunc_err {p R : Nat} {M y : Int} {Y : Rat} (hp : 3 ≤ p) (hM : M = 10 ^ p) (hY1 : -Y ≤ (y : Rat)) (hY2 : (y : Rat) ≤ Y) {u : Rat} (hu0 : 0 ≤ u) (hu : u * (2 ^ R * M) ≤ Y) (hu2 : u ≤ 1 / 256) :
    2 ^ R * M * (2 * u ^ (tays p + 1) / (tays p + 1)) ≤ 1 / 15 * (Y / M) := by
  have hT := tays_two hp
  have hb := tays_big p
  have hM0 : 0 < M := by rw [hM]; exact Int.pow_pos (by decide)
  have hm : (0 : Rat) < M := by exact_mod_cast hM0
  have hTq : (2 : Rat) ≤ tays p := by exact_mod_cast hT
  have hY0 : 0 ≤ Y := by grind
  have h1 := (rpow_le hu0 hu2 (tays p)).1
  have h0 := (rpow_le hu0 hu2 (tays p)).2
  have hbq : (10 : Rat) * M ≤ 256 ^ tays p := by
    have : ((10 ^ (p + 1) : Nat) : Rat) ≤ ((256 ^ tays p : Nat) : Rat) := by exact_mod_cast hb
    have e1 : ((10 ^ (p + 1) : Nat) : Rat) = 10 * M := by
      rw [hM, Rat.intCast_pow, show (((10 : Int)) : Rat) = 10 from rfl]
      push_cast
      rw [Rat.pow_succ]; grind
    have e2 : ((256 ^ tays p : Nat) : Rat) = 256 ^ tays p := by push_cast; rfl
    grind
  have e3 : (1 / 256 : Rat) ^ tays p * 256 ^ tays p = 1 := by
    rw [← rmul_pow, show (1 / 256 : Rat) * 256 = 1 by grind, one_rpow]
  have h2 : (1 / 256 : Rat) ^ tays p * (10 * M) ≤ 1 := by
    have := Rat.mul_le_mul_of_nonneg_left hbq (show (0 : Rat) ≤ (1 / 256) ^ tays p from Rat.le_of_lt (rpow_pos (by grind) _))
    grind
  have h3 : u ^ tays p * (10 * M) ≤ 1 := by
    have := Rat.mul_nonneg (show 0 ≤ (1 / 256 : Rat) ^ tays p - u ^ tays p by grind) (show (0 : Rat) ≤ 10 * M by grind)
    grind
  rw [Rat.pow_succ]
  have hn : 0 < (tays p : Rat) + 1 := by grind
  have e4 : 2 ^ R * M * (2 * (u ^ tays p * u) / (tays p + 1)) = 2 * (u * (2 ^ R * M)) * u ^ tays p / (tays p + 1) := by grind
  rw [e4]
  refine rdiv_le hn ?_
  have k1 := Rat.mul_nonneg (show 0 ≤ Y - u * (2 ^ R * M) by grind) h0
  have e5 : Y / M * M = Y := fld3 hm
  have hYM : 0 ≤ Y / M := le_rdiv hm (by grind)
  have k2 := Rat.mul_nonneg hYM (show 0 ≤ 1 - u ^ tays p * (10 * M) by grind)
  have k3 := Rat.mul_nonneg hYM (show 0 ≤ (tays p : Rat) + 1 - 3 by grind)
  generalize u ^ tays p = U at *
  generalize u * (2 ^ R * M) = W at *
  generalize Y / (M : Rat) = Z at *
  have e6 : Y * U = Z * (U * M) := by rw [← e5]; grind
  grind
theorem fin_lo {D Z κ A m P S t : Rat} (te : D - P * m * S ≤ 1 / 2 + (51 / 100 + 13 / 25 * κ) * Z) (tr : P * m * t ≤ 1 / 15 * Z) : D - (1 / 2 + (173 / 300 + 13 / 25 * κ) * Z + A * m) ≤ (P * (S - t) - A) * m := by
  have e : (P * (S - t) - A) * m = P * m * S - P * m * t - A * m := by grind
  rw [e]; grind
theorem fin_hi {D Z κ A m P S t : Rat} (te : -(1 / 2 + (51 / 100 + 13 / 25 * κ) * Z) ≤ D - P * m * S) (tr : P * m * t ≤ 1 / 15 * Z) : (P * (S + t) + A) * m ≤ D + (1 / 2 + (173 / 300 + 13 / 25 * κ) * Z + A * m) := by
  have e : (P * (S + t) + A) * m = P * m * S + P * m * t + A * m := by grind
  rw [e]; grind
/-- the answer of _ilog against the logarithm -/
theorem il_final {p R : Nat} {x M y : Int} {A Y κ : Rat} (hp : 3 ≤ p) (hM : M = 10 ^ p) (h : IlInv x M R y A) (hc : 256 * (y.natAbs : Int) < M * 2 ^ R)
    (hκ : κ = 1 / 2 ∨ (R = 0 ∧ κ = 0)) (hY1 : -Y ≤ (y : Rat)) (hY2 : (y : Rat) ≤ Y) :
    Lg (((ilTail p M R y : Rat) - (1 / 2 + (173 / 300 + 13 / 25 * κ) * (Y / M) + A * M)) / M) ((x : Rat) / M) ∧
    Ug (((ilTail p M R y : Rat) + (1 / 2 + (173 / 300 + 13 / 25 * κ) * (Y / M) + A * M)) / M) ((x : Rat) / M) := by
  have hM0 : 0 < M := by rw [hM]; exact Int.pow_pos (by decide)
  have hMk : 1000 ≤ M := by
    rw [hM]
    obtain ⟨q, rfl⟩ : ∃ q, p = 3 + q := ⟨p - 3, by omega⟩
    rw [Int.pow_add]
    have : (0 : Int) < 10 ^ q := Int.pow_pos (by decide)
    have : (10 : Int) ^ 3 = 1000 := by decide
    omega
  have hm : (0 : Rat) < M := by exact_mod_cast hM0
  have hP := c2pos R
  have hPm := Rat.mul_pos hP hm
  have hvy := vr_eq (R := R) (y := y) hM0
  generalize hv : vr M R y = v at *
  have hcq : 256 * (y : Rat) < M * 2 ^ R ∧ -(M * 2 ^ R) < 256 * (y : Rat) := by
    have c1 : 256 * y < M * 2 ^ R := by omega
    have c2 : -(M * 2 ^ R) < 256 * y := by omega
    have d1 := Rat.intCast_lt_intCast.mpr c1
    have d2 := Rat.intCast_lt_intCast.mpr c2
    have e1 : ((256 * y : Int) : Rat) = 256 * (y : Rat) := by rw [Rat.intCast_mul]; rfl
    have e2 : ((M * 2 ^ R : Int) : Rat) = M * 2 ^ R := by rw [Rat.intCast_mul, cast_two_pow]
    have e3 : ((-(M * 2 ^ R) : Int) : Rat) = -(M * 2 ^ R) := by rw [Rat.intCast_neg, e2]
    rw [e1, e2] at d1
    rw [e1, e3] at d2
    exact ⟨d1, d2⟩
  have hv2 : v ≤ 1 / 256 := by
    rcases rlt_or_le (1 / 256) v with g | g
    · have := Rat.mul_lt_mul_of_pos_right g hPm
      grind
    · exact g
  have hv1 : -(1 / 256) ≤ v := by
    rcases rlt_or_le v (-(1 / 256)) with g | g
    · have := Rat.mul_lt_mul_of_pos_right g hPm
      grind
    · exact g
  have hys : -κ ≤ (divN y (2 ^ R) : Rat) - v * M ∧ (divN y (2 ^ R) : Rat) - v * M ≤ κ := by
    have e : v * M = (y : Rat) / 2 ^ R := by rw [← hvy]; have : (2 : Rat) ^ R ≠ 0 := by grind
                                             grind
    rw [e]
    rcases hκ with hk | ⟨h0, hk⟩
    · have := divN_rat y (b := 2 ^ R) (Int.pow_pos (by decide))
      rw [cast_two_pow] at this
      rw [hk]
      constructor <;> grind
    · subst h0 hk
      rw [show (2 : Int) ^ 0 = 1 from rfl, divN_one, Rat.pow_zero]
      constructor <;> grind
  have hκ0 : 0 ≤ κ ∧ κ ≤ 1 / 2 := by rcases hκ with h | ⟨_, h⟩ <;> rw [h] <;> constructor <;> grind
  have te := tail_err (ys := divN y (2 ^ R)) (R := R) hMk (tays_two hp) hv1 hv2 hvy hκ0.1 hκ0.2 hys.1 hys.2 hY1 hY2
  have eT : ilTail p M R y = divN (horn M (divN y (2 ^ R)) (divN M (tays p)) (downKs ((tays p : Int) - 1) (tays p - 1)) * y) M := rfl
  rw [← eT] at te
  -- the series
  have ser : ∃ u : Rat, 0 ≤ u ∧ u ≤ 1 / 256 ∧ u * (2 ^ R * M) ≤ Y ∧ Lg (lgS v (tays p) - 2 * u ^ (tays p + 1) / (tays p + 1)) (1 + v) ∧ Ug (lgS v (tays p) + 2 * u ^ (tays p + 1) / (tays p + 1)) (1 + v) := by
    rcases rlt_or_le v 0 with g | g
    · have a := tay_lo (s := -1) (u := -v) (Or.inr rfl) (by grind) (by grind) (tays p)
      have b := tay_hi (s := -1) (u := -v) (Or.inr rfl) (by grind) (by grind) (tays p)
      rw [show (-1 : Rat) * -v = v by grind] at a b
      exact ⟨-v, by grind, by grind, by grind, a, b⟩
    · have a := tay_lo (s := 1) (u := v) (Or.inl rfl) g (by grind) (tays p)
      have b := tay_hi (s := 1) (u := v) (Or.inl rfl) g (by grind) (tays p)
      rw [show (1 : Rat) * v = v by grind] at a b
      exact ⟨v, by grind, by grind, by grind, a, b⟩
  obtain ⟨u, u0, u1, u2, uL, uU⟩ := ser
  have tr := trunc_err (R := R) hp hM hY1 hY2 u0 u2 u1
  have kL := h.lo (r := lgS v (tays p) - 2 * u ^ (tays p + 1) / (tays p + 1)) (by rw [hv]; exact uL)
  have kU := h.hi (r := lgS v (tays p) + 2 * u ^ (tays p + 1) / (tays p + 1)) (by rw [hv]; exact uU)
  generalize (ilTail p M R y : Rat) = D at *
  generalize 2 * u ^ (tays p + 1) / ((tays p : Rat) + 1) = t at *
  generalize lgS v (tays p) = S at *
  generalize hZ : Y / (M : Rat) = Z at *
  constructor
  · exact kL.mono (rdiv_le hm (fin_lo te.2 tr)) Rat.le_refl
  · exact kU.mono (le_rdiv hm (fin_hi te.1 tr)) Rat.le_refl
end Mine

end
section
namespace Mine
theorem sq_ge_M {M r s : Int} (hM : 0 < M) (hr : 0 ≤ r) (hs : IsSq (M * (M + r)) s) : M ≤ s := by
  rcases Int.lt_or_le s M with h | h
  · exfalso
    have h0 := hs.1
    have h1 : s * (s + 1) ≤ (M - 1) * M := Int.mul_le_mul (by omega) (by omega) (by omega) (by omega)
    have h2 : 0 ≤ M * r := Int.mul_nonneg (by omega) hr
    have h3 := hs.2.2
    have e1 : M * (M + r) = M * M + M * r := by grind
    have e2 : s * (s + 1) = s * s + s := by grind
    have e3 : (M - 1) * M = M * M - M := by grind
    omega
  · exact h
theorem two_pow_ge (R : Nat) : (1 : Rat) ≤ 2 ^ R := by
  induction R with
  | zero => rw [Rat.pow_zero]; grind
  | succ R ih => rw [Rat.pow_succ]; grind
end Mine
end
section
namespace Mine
/-! bounds of the exponential: Ug r q says q ≤ exp r, Lg r q says exp r ≤ q -/
/-- r^k / k! -/
def et (r : Rat) : Nat → Rat
  | 0 => 1
  | k + 1 => et r k * r / (k + 1)
/-- the sum of the first -/
def eP (r : Rat) : Nat → Rat
  | 0 => 1
  | k + 1 => eP r k + et r (k + 1)
theorem nat1_pos (k : Nat) : (0 : Rat) < (k : Rat) + 1 := by
  have : (0 : Rat) ≤ k := Rat.natCast_nonneg
  grind
theorem et_succ (r : Rat) (k : Nat) : et r (k + 1) * ((k : Rat) + 1) = et r k * r := by
  rw [et]; exact fld3 (nat1_pos k)
theorem et_nonneg {r : Rat} (h : 0 ≤ r) : ∀ k, 0 ≤ et r k
  | 0 => by rw [et]; grind
  | k + 1 => by
    rw [et]
    exact le_rdiv (nat1_pos k) (by have := Rat.mul_nonneg (et_nonneg h k) h; grind)
theorem eP_one {r : Rat} (h : 0 ≤ r) : ∀ k, 1 ≤ eP r k
  | 0 => by rw [eP]; grind
  | k + 1 => by
    rw [eP]
    have := eP_one h k
    have := et_nonneg h (k + 1)
    grind
theorem rle_of_mul {a b c : Rat} (hc : 0 < c) (h : a * c ≤ b * c) : a ≤ b := by
  rcases rlt_or_le b a with g | g
  · have := Rat.mul_lt_mul_of_pos_right g hc
    grind
  · exact g
theorem et_diff {x y : Rat} (h0 : 0 ≤ x) (h : x ≤ y) : ∀ k, et x k * (y - x) ≤ et y (k + 1) - et x (k + 1) ∧ et y (k + 1) - et x (k + 1) ≤ et y k * (y - x)
  | 0 => by
    simp only [et]
    push_cast
    constructor <;> grind
  | k + 1 => by
    obtain ⟨a, b⟩ := et_diff h0 h k
    have hx := et_nonneg h0 k
    have hy := et_nonneg (show 0 ≤ y by grind) k
    have ex := et_succ x k
    have ey := et_succ y k
    have ex2 := et_succ x (k + 1)
    have ey2 := et_succ y (k + 1)
    have c2 : (((k + 1 : Nat) : Rat) + 1) = (k : Rat) + 2 := by push_cast; grind
    rw [c2] at ex2 ey2
    have hk2 : (0 : Rat) < (k : Rat) + 2 := by have := nat1_pos k; grind
    generalize et x (k + 1) = A at *
    generalize et y (k + 1) = B at *
    generalize et x k = A0 at *
    generalize et y k = B0 at *
    generalize et x (k + 1 + 1) = A2 at *
    generalize et y (k + 1 + 1) = B2 at *
    have d0 : 0 ≤ y - x := by grind
    have k1 := Rat.mul_nonneg h0 (show 0 ≤ B0 * (y - x) - (B - A) by grind)
    have k2 := Rat.mul_nonneg (Rat.mul_nonneg d0 d0) hy
    have k3 := Rat.mul_nonneg (show 0 ≤ y by grind) (show 0 ≤ (B - A) - A0 * (y - x) by grind)
    have k4 := Rat.mul_nonneg (Rat.mul_nonneg d0 d0) hx
    constructor
    · refine rle_of_mul hk2 ?_
      have e1 : (B2 - A2) * ((k : Rat) + 2) = B * y - A * x := by grind
      rw [e1]
      have e2 : A * (y - x) * ((k : Rat) + 2) = A * (y - x) + (y - x) * (A * ((k : Rat) + 1)) := by grind
      rw [e2, ex]
      grind
    · refine rle_of_mul hk2 ?_
      have e1 : (B2 - A2) * ((k : Rat) + 2) = B * y - A * x := by grind
      rw [e1]
      have e2 : B * (y - x) * ((k : Rat) + 2) = B * (y - x) + (y - x) * (B * ((k : Rat) + 1)) := by grind
      rw [e2, ey]
      grind
theorem eP_diff {x y : Rat} (h0 : 0 ≤ x) (h : x ≤ y) : ∀ k, eP x k * (y - x) ≤ eP y (k + 1) - eP x (k + 1) ∧ eP y (k + 1) - eP x (k + 1) ≤ eP y k * (y - x)
  | 0 => by
    simp only [et, eP]
    push_cast
    constructor <;> grind
  | k + 1 => by
    obtain ⟨a, b⟩ := eP_diff h0 h k
    obtain ⟨c, d⟩ := et_diff h0 h (k + 1)
    have e1 : eP y (k + 1 + 1) = eP y (k + 1) + et y (k + 1 + 1) := rfl
    have e2 : eP x (k + 1 + 1) = eP x (k + 1) + et x (k + 1 + 1) := rfl
    have e3 : eP y (k + 1) = eP y k + et y (k + 1) := rfl
    have e4 : eP x (k + 1) = eP x k + et x (k + 1) := rfl
    rw [e1, e2]
    constructor
    · rw [e4] at a ⊢; grind
    · rw [e3] at b ⊢; grind
theorem et_half {y : Rat} (h0 : 0 ≤ y) (h1 : 2 * y ≤ 1) (k : Nat) : 2 * et y (k + 1) ≤ et y k := by
  have e := et_succ y k
  have a := et_nonneg h0 k
  have b := et_nonneg h0 (k + 1)
  have hk : (0 : Rat) ≤ k := Rat.natCast_nonneg
  have k1 := Rat.mul_nonneg a (show 0 ≤ 1 - 2 * y by grind)
  have k2 := Rat.mul_nonneg b hk
  grind
theorem eP_two {y : Rat} (h0 : 0 ≤ y) (h1 : 2 * y ≤ 1) : ∀ k, eP y k + et y k ≤ 2
  | 0 => by simp only [eP, et]; grind
  | k + 1 => by
    have := eP_two h0 h1 k
    have := et_half h0 h1 k
    rw [eP]; grind
theorem eP_zero : ∀ k, eP 0 k = 1
  | 0 => rfl
  | k + 1 => by rw [eP, eP_zero k, et]; grind
/-- the sum is no more than exp -/
theorem exp_lo {r : Rat} (h0 : 0 ≤ r) (h1 : 2 * r ≤ 1) (T : Nat) : Ug r (eP r (T + 1)) := by
  have key := Ug.along (F := fun x => x) (G := fun x => eP x (T + 1)) (a := 0) (b := r) (C := 2) h0 (by grind)
    (by intro x hx hx2; have := eP_one hx (T + 1); grind) (by
      intro x y hx hxy hy
      have d := (eP_diff hx hxy T).2
      have o := eP_one hx (T + 1)
      have hy0 : 0 ≤ y := by grind
      have t := eP_two hy0 (by grind) (T + 1)
      have e3 : eP y (T + 1) = eP y T + et y (T + 1) := rfl
      have n1 := et_nonneg hy0 (T + 1)
      have hd : 0 ≤ y - x := by grind
      show eP y (T + 1) / eP x (T + 1) - 1 ≤ y - x + 2 * ((y - x) * (y - x))
      have : eP y (T + 1) / eP x (T + 1) ≤ 1 + (y - x) + 2 * ((y - x) * (y - x)) := by
        refine rdiv_le (by grind) ?_
        generalize eP y (T + 1) = B at *
        generalize eP x (T + 1) = A at *
        generalize eP y T = B0 at *
        have k1 := Rat.mul_nonneg (show 0 ≤ B - B0 by grind) hd
        have k2 := Rat.mul_nonneg (show 0 ≤ 2 - B by grind) hd
        -- B - A ≤ B d, B - A ≤ 2 d
        have k3 := Rat.mul_nonneg (show 0 ≤ 2 * (y - x) - (B - A) by grind) hd
        have k4 := Rat.mul_nonneg (Rat.mul_nonneg hd hd) (show 0 ≤ A - 1 by grind)
        grind
      grind)
  refine key.mono (by grind) ?_
  show eP r (T + 1) ≤ eP r (T + 1) / eP 0 (T + 1)
  rw [eP_zero]; grind
/-- and exp is no more than the sum and twice the next -/
theorem exp_hi {r : Rat} (h0 : 0 ≤ r) (h1 : 2 * r ≤ 1) (T : Nat) : Lg r (eP r (T + 1) + 2 * et r (T + 2)) := by
  have key := Lg.along (F := fun x => x) (G := fun x => eP x (T + 1) + 2 * et x (T + 2)) (a := 0) (b := r) (C := 4) h0 (by grind)
    (by intro x hx hx2; have := eP_one hx (T + 1); have := et_nonneg hx (T + 2); grind) (by
      intro x y hx hxy hy
      have d := eP_diff hx hxy T
      have d2 := et_diff hx hxy (T + 1)
      have hy0 : 0 ≤ y := by grind
      have o := eP_one hy0 (T + 1)
      have t := eP_two hy0 (by grind) (T + 1)
      have t0 := eP_two hy0 (by grind) T
      have hh := et_half hx (by grind) (T + 1)
      have e3 : eP x (T + 1) = eP x T + et x (T + 1) := rfl
      have n1 := et_nonneg hy0 (T + 2)
      have n0 := et_nonneg hx (T + 2)
      have n2 := et_nonneg hy0 (T + 1)
      have n3 := et_nonneg hy0 T
      have n4 := eP_one hy0 T
      have hd : 0 ≤ y - x := by grind
      show y - x ≤ 1 - (eP x (T + 1) + 2 * et x (T + 2)) / (eP y (T + 1) + 2 * et y (T + 2)) + 4 * ((y - x) * (y - x))
      have : (eP x (T + 1) + 2 * et x (T + 2)) / (eP y (T + 1) + 2 * et y (T + 2)) ≤ 1 - (y - x) + 4 * ((y - x) * (y - x)) := by
        refine rdiv_le (by grind) ?_
        have g1 : (eP x (T + 1) + 2 * et x (T + 2)) * (y - x) ≤ (eP y (T + 1) + 2 * et y (T + 2)) - (eP x (T + 1) + 2 * et x (T + 2)) := by
          have k1 := Rat.mul_nonneg (show 0 ≤ et x (T + 1) - 2 * et x (T + 2) by grind) hd
          have d1 := d.1
          have d3 := d2.1
          rw [show eP x T = eP x (T + 1) - et x (T + 1) by grind] at d1
          clear e3 d d2
          generalize eP x (T + 1) = a1 at *
          generalize eP y (T + 1) = a2 at *
          generalize et x (T + 1) = a3 at *
          generalize et x (T + 2) = a4 at *
          generalize et y (T + 2) = a5 at *
          grind
        have g2 : (eP y (T + 1) + 2 * et y (T + 2)) - (eP x (T + 1) + 2 * et x (T + 2)) ≤ 4 * (y - x) := by
          have k1 := Rat.mul_nonneg (show 0 ≤ 2 - eP y T by grind) hd
          have k2 := Rat.mul_nonneg (show 0 ≤ 1 - et y (T + 1) by grind) hd
          grind
        have g3 : 1 ≤ eP y (T + 1) + 2 * et y (T + 2) := by grind
        generalize eP y (T + 1) + 2 * et y (T + 2) = B at *
        generalize eP x (T + 1) + 2 * et x (T + 2) = A at *
        have k3 := Rat.mul_nonneg (show 0 ≤ 4 * (y - x) - (B - A) by grind) hd
        have k4 := Rat.mul_nonneg (Rat.mul_nonneg hd hd) (show 0 ≤ B - 1 by grind)
        grind
      grind)
  refine key.mono (by grind) ?_
  show (eP r (T + 1) + 2 * et r (T + 2)) / (eP 0 (T + 1) + 2 * et 0 (T + 2)) ≤ _
  rw [eP_zero, show et 0 (T + 2) = 0 by rw [et]; grind]
  grind
/-- the ideal Taylor loop -/
def uE (r : Rat) (T : Nat) : Nat → Rat
  | 0 => r / T
  | i + 1 => r / ((T - 1 - i : Nat) : Rat) * (1 + uE r T i)
theorem uE_eP (r : Rat) (T : Nat) : ∀ i : Nat, i + 1 ≤ T → eP r T - eP r (T - 1 - i) = et r (T - 1 - i) * uE r T i
  | 0, h => by
    obtain ⟨S, rfl⟩ : ∃ S, T = S + 1 := ⟨T - 1, by omega⟩
    simp only [uE, Nat.sub_zero, Nat.add_sub_cancel, eP, et]
    push_cast
    grind
  | i + 1, h => by
    have ih := uE_eP r T i (by omega)
    obtain ⟨S, hS⟩ : ∃ S, T - 1 - i = S + 1 := ⟨T - 1 - i - 1, by omega⟩
    have e1 : T - 1 - (i + 1) = S := by omega
    rw [hS] at ih
    rw [e1]
    simp only [uE, hS]
    have e2 : eP r (S + 1) = eP r S + et r (S + 1) := rfl
    have e3 : et r (S + 1) = et r S * r / (S + 1) := rfl
    rw [e2, e3] at ih
    push_cast
    have hS0 := nat1_pos S
    have : (S : Rat) + 1 ≠ 0 := by grind
    grind
theorem uE_one (r : Rat) {T : Nat} (hT : 1 ≤ T) : 1 + uE r T (T - 1) = eP r T := by
  have := uE_eP r T (T - 1) (by omega)
  rw [show T - 1 - (T - 1) = 0 by omega] at this
  simp only [eP, et] at this
  grind
/-- the terms are small -/
theorem et_small {r : Rat} (h0 : 0 ≤ r) (h1 : r ≤ 1 / 256) : ∀ k : Nat, 6 * et r (k + 3) ≤ r * (1 / 256) ^ (k + 2)
  | 0 => by
    simp only [et, Rat.pow_succ, Rat.pow_zero]
    push_cast
    have k1 := Rat.mul_nonneg h0 (show 0 ≤ 1 / 256 - r by grind)
    have k2 := Rat.mul_nonneg k1 (show 0 ≤ 1 / 256 + r by grind)
    grind
  | k + 1 => by
    have ih := et_small h0 h1 k
    have e := et_succ r (k + 3)
    have a := et_nonneg h0 (k + 3)
    have b := et_nonneg h0 (k + 3 + 1)
    have hk : (0 : Rat) ≤ ((k + 3 : Nat) : Rat) := Rat.natCast_nonneg
    have k1 := Rat.mul_nonneg a (show 0 ≤ 1 / 256 - r by grind)
    have k2 := Rat.mul_nonneg b hk
    rw [show k + 1 + 3 = k + 3 + 1 by omega, show k + 1 + 2 = k + 2 + 1 by omega, Rat.pow_succ]
    generalize (1 / 256 : Rat) ^ (k + 2) = P at *
    grind
end Mine

end
section
namespace Mine
open PySem.W
/-! reductions from one up to ten -/
theorem sqB0 {M y s : Rat} (hM : 1000 ≤ M) (hs0 : 0 < s) (hy : y ≤ 9 * M) (h1 : s * s - s ≤ M * (M + y)) : s ≤ 317 / 100 * M := by
  rcases rlt_or_le (317 / 100 * M) s with g | g
  · exfalso
    have a := Rat.mul_nonneg (show 0 ≤ s - 317 / 100 * M by grind) (show 0 ≤ s + 317 / 100 * M - 1 by grind)
    have b := Rat.mul_nonneg (show 0 ≤ M by grind) (show 0 ≤ 9 * M - y by grind)
    have c := Rat.mul_nonneg (show 0 ≤ M by grind) (show 0 ≤ M - 1000 by grind)
    grind
  · exact g
theorem sqB1 {M y s r : Rat} (hM : 1000 ≤ M) (hs0 : 0 < s) (hy : y ≤ 87 / 20 * M) (hr : r ≤ y / 2 + 1 / 2) (h1 : s * s - s ≤ M * (M + r)) : s ≤ 179 / 100 * M := by
  rcases rlt_or_le (179 / 100 * M) s with g | g
  · exfalso
    have a := Rat.mul_nonneg (show 0 ≤ s - 179 / 100 * M by grind) (show 0 ≤ s + 179 / 100 * M - 1 by grind)
    have b := Rat.mul_nonneg (show 0 ≤ M by grind) (show 0 ≤ 87 / 40 * M + 1 / 2 - r by grind)
    have c := Rat.mul_nonneg (show 0 ≤ M by grind) (show 0 ≤ M - 1000 by grind)
    grind
  · exact g
theorem yB0 {M y s d : Rat} (hM : 1000 ≤ M) (hs0 : M ≤ s) (hs : s ≤ 317 / 100 * M) (h2 : M * (M + y) ≤ s * s + s) (hd : d ≤ M * y * 2 / (M + s) + 1 / 2) : d ≤ 87 / 20 * M := by
  have : M * y * 2 / (M + s) ≤ 2 * (s - M) + 2 := rdiv_le (by grind) (by grind)
  grind
theorem yB1 {M y s d r : Rat} (hM : 1000 ≤ M) (hs0 : M ≤ s) (hs : s ≤ 179 / 100 * M) (hr : y / 2 - 1 / 2 ≤ r) (h2 : M * (M + r) ≤ s * s + s) (hd : d ≤ M * y * 2 / (M + s) + 1 / 2) : d ≤ 16 / 5 * M := by
  have b := Rat.mul_nonneg (show 0 ≤ M by grind) (show 0 ≤ r - (y / 2 - 1 / 2) by grind)
  have : M * y * 2 / (M + s) ≤ 4 * (s - M) + 4 := rdiv_le (by grind) (by grind)
  grind
theorem half_facts {a b : Rat} (h : -(1 / 2) ≤ a - b ∧ a - b ≤ 1 / 2) : b - 1 / 2 ≤ a ∧ a ≤ b + 1 / 2 := by
  constructor <;> grind
/-- one reduction, from a bound c of y' / M -/
theorem stepB {x M y s : Int} {R : Nat} {A c : Rat} (hM : 1000 ≤ M) (h : IlInv x M R y A) (hy : 0 ≤ y) (hs : IsSq (M * (M + divN y (2 ^ R))) s)
    (hc : ((divN (M * y * 2) (M + s) : Int) : Rat) ≤ c * M) (hy' : 0 ≤ divN (M * y * 2) (M + s)) :
    ∃ A', IlInv x M (R + 1) (divN (M * y * 2) (M + s)) A' ∧ A' * M ≤ A * M + (c / 2 + 1 / 2 + c / 2 * (1 / 2 ^ (R + 1)) + 1 / 1000) := by
  have hM0 : 0 < M := by omega
  have hm := cast_k hM
  have hm0 : (0 : Rat) < M := by grind
  have hs0 : (0 : Rat) < s := by exact_mod_cast hs.1
  have hw : 0 < (s : Rat) / M := rdiv_pos hs0 hm0
  have vpos : ∀ (R : Nat) (z : Int), 0 ≤ z → 0 ≤ vr M R z := by
    intro R z hz
    have hzq : (0 : Rat) ≤ z := by exact_mod_cast hz
    unfold vr
    exact le_rdiv (Rat.mul_pos (c2pos R) hm0) (by grind)
  have v0 := vpos R y hy
  have v0' := vpos (R + 1) _ hy'
  have yq0 : (0 : Rat) ≤ ((divN (M * y * 2) (M + s) : Int) : Rat) := by exact_mod_cast hy'
  have g := step_gen (θ := 1) (κ := 1 / 2) (Y := c * M) (l := 1) hM0 h hs (Or.inl rfl) (by grind) (by grind) hc (by grind) (by grind) (by grind) (by
    have := rsq_nonneg (vr M (R + 1) (divN (M * y * 2) (M + s)))
    grind)
  refine ⟨_, g, ?_⟩
  have ev := vr_eq (R := R + 1) (y := divN (M * y * 2) (M + s)) hM0
  have hP := c2pos (R + 1)
  have vle : vr M (R + 1) (divN (M * y * 2) (M + s)) ≤ c * (1 / 2 ^ (R + 1)) := by
    refine rle_of_mul (Rat.mul_pos hP hm0) ?_
    rw [ev]
    have : c * (1 / 2 ^ (R + 1)) * (2 ^ (R + 1) * (M : Rat)) = c * M := by
      have : (2 : Rat) ^ (R + 1) ≠ 0 := by grind
      grind
    rw [this]; exact hc
  have mi : 1 / (M : Rat) ≤ 1 / 1000 := rdiv_le hm0 (by grind)
  have mi0 : 0 < (1 : Rat) / M := rdiv_pos (by grind) hm0
  have e1 : (A + (1 * (c * M / (2 * M) + 1 / (4 * M)) + (1 + vr M (R + 1) (divN (M * y * 2) (M + s))) / 2 + 1 / (16 * (M : Rat))) / (1 * M)) * M = A * M + (c / 2 + 1 / 4 * (1 / M) + (1 + vr M (R + 1) (divN (M * y * 2) (M + s))) / 2 + 1 / 16 * (1 / M)) := by
    generalize vr M (R + 1) (divN (M * y * 2) (M + s)) = V
    have : (M : Rat) ≠ 0 := by grind
    grind
  rw [e1]
  generalize vr M (R + 1) (divN (M * y * 2) (M + s)) = V at *
  generalize 1 / (2 : Rat) ^ (R + 1) = t at *
  generalize (1 : Rat) / M = i at *
  grind
theorem pow10_le {M y2 : Int} {R : Nat} (hM : 0 < M) (h : M * 2 ^ R ≤ y2) (hy : y2 < 1024 * M) : R ≤ 9 := by
  rcases Nat.lt_or_ge 9 R with g | g
  · exfalso
    obtain ⟨k, rfl⟩ : ∃ k, R = 10 + k := ⟨R - 10, by omega⟩
    rw [Int.pow_add] at h
    have : (0 : Int) < 2 ^ k := Int.pow_pos (by decide)
    have h1 : M * 1024 ≤ M * (2 ^ 10 * 2 ^ k) := Int.mul_le_mul_of_nonneg_left (by
      have : (2 : Int) ^ 10 = 1024 := by decide
      omega) (by omega)
    omega
  · exact g
theorem half_pow {R : Nat} (h : 2 ≤ R) : 1 / (2 : Rat) ^ (R + 1) ≤ 1 / 8 := by
  obtain ⟨k, rfl⟩ : ∃ k, R = 2 + k := ⟨R - 2, by omega⟩
  have hk := two_pow_ge k
  have e : (2 : Rat) ^ (2 + k + 1) = 8 * 2 ^ k := by rw [Rat.pow_succ, rpow_add, show (2 : Rat) ^ 2 = 4 by decide +kernel]; grind
  rw [e]
  exact rdiv_le (by grind) (by grind)
def aB : Nat → Rat
  | 0 => 0
  | 1 => 19 / 5
  | R => 5 / 2 * R + 3 / 2
/-- the chain from one up to ten -/
theorem chainB {x M : Int} (hM : 1000 ≤ M) (hx : M ≤ x) (hx2 : x ≤ 10 * M) {R : Nat} {y : Int} (h : RedTo x M R y) :
    0 ≤ y ∧ y ≤ 9 * M ∧ (1 ≤ R → (y : Rat) ≤ 87 / 20 * M) ∧ (2 ≤ R → (y : Rat) ≤ 16 / 5 * M) ∧ R ≤ 10 ∧ ∃ A, IlInv x M R y A ∧ A * M ≤ aB R := by
  have hm := cast_k hM
  have hm0 : (0 : Rat) < M := by grind
  induction h with
  | zero =>
    refine ⟨by omega, by omega, by omega, by omega, by omega, 0, IlInv.zero (by omega) (by omega), ?_⟩
    unfold aB
    grind
  | @succ R y s hr hc hs ih =>
    obtain ⟨y0, y9, yb1, yb2, hR10, A, iA, bA⟩ := ih
    have hPi : (0 : Int) < 2 ^ R := Int.pow_pos (by decide)
    have hr0 : 0 ≤ divN y (2 ^ R) := le_divN hPi (by omega)
    have hsM := sq_ge_M (by omega) hr0 hs
    have y'0 : 0 ≤ divN (M * y * 2) (M + s) := le_divN (by omega) (by
      have := Int.mul_nonneg (show 0 ≤ M by omega) y0
      omega)
    have y'1 : divN (M * y * 2) (M + s) ≤ y := divN_le (by omega) (by
      have h1 := Int.mul_le_mul_of_nonneg_left hsM y0
      have e1 : y * (M + s) = y * M + y * s := by grind
      have e2 : M * y * 2 = y * M + y * M := by grind
      omega)
    have y'1q : ((divN (M * y * 2) (M + s) : Int) : Rat) ≤ y := by exact_mod_cast y'1
    have hs0 : (0 : Rat) < s := by exact_mod_cast hs.1
    have hsMq : (M : Rat) ≤ s := by exact_mod_cast hsM
    have d1 := divN_rat (M * y * 2) (b := M + s) (by omega)
    have eM : (((M * y * 2 : Int) : Rat)) = M * y * 2 := by push_cast; rfl
    have eS : (((M + s : Int) : Rat)) = M + s := by push_cast; rfl
    rw [eM, eS] at d1
    have q1 : (s : Rat) * s - s ≤ M * (M + divN y (2 ^ R)) := by
      have := hs.2.1
      have h : s * s - s ≤ M * (M + divN y (2 ^ R)) := by omega
      exact_mod_cast h
    have q2 : (M : Rat) * (M + divN y (2 ^ R)) ≤ (s : Rat) * s + s := by exact_mod_cast hs.2.2
    have y9q : (y : Rat) ≤ 9 * M := by
      have := Rat.intCast_le_intCast.mpr y9
      rw [Rat.intCast_mul] at this
      exact this
    have dr := divN_rat y (b := 2 ^ R) hPi
    rw [cast_two_pow] at dr
    -- the first, the second, the others
    have hcase : R = 0 ∨ R = 1 ∨ 2 ≤ R := by omega
    rcases hcase with e | e | e
    · subst e
      rw [show (2 : Int) ^ 0 = 1 from rfl, divN_one] at q1 q2
      have sb := sqB0 hm hs0 y9q q1
      have yb := yB0 (d := ((divN (M * y * 2) (M + s) : Int) : Rat)) hm hsMq sb q2 (half_facts d1).2
      obtain ⟨A', i', b'⟩ := stepB hM iA y0 hs yb y'0
      refine ⟨y'0, by omega, fun _ => yb, by omega, by omega, A', i', ?_⟩
      unfold aB at bA ⊢
      simp only [Rat.pow_succ, Rat.pow_zero] at b'
      grind
    · subst e
      rw [show (2 : Rat) ^ 1 = 2 by decide +kernel] at dr
      have sb := sqB1 (r := (divN y (2 ^ 1) : Rat)) hm hs0 (yb1 (by omega)) (half_facts dr).2 q1
      have yb := yB1 (r := (divN y (2 ^ 1) : Rat)) (d := ((divN (M * y * 2) (M + s) : Int) : Rat)) hm hsMq sb (half_facts dr).1 q2 (half_facts d1).2
      obtain ⟨A', i', b'⟩ := stepB hM iA y0 hs yb y'0
      refine ⟨y'0, by omega, fun _ => by grind, fun _ => yb, by omega, A', i', ?_⟩
      unfold aB at bA ⊢
      simp only [Rat.pow_succ, Rat.pow_zero] at b'
      push_cast
      grind
    · have yb : ((divN (M * y * 2) (M + s) : Int) : Rat) ≤ 16 / 5 * M := by have := yb2 e; grind
      obtain ⟨A', i', b'⟩ := stepB hM iA y0 hs yb y'0
      have y3 : 256 * (y.natAbs : Int) < 1024 * M := by
        have h1 := yb2 e
        have h2 : ((5 * y : Int) : Rat) ≤ ((16 * M : Int) : Rat) := by
          rw [Rat.intCast_mul, Rat.intCast_mul, show (((5 : Int)) : Rat) = 5 from rfl, show (((16 : Int)) : Rat) = 16 from rfl]
          grind
        have h3 := Rat.intCast_le_intCast.mp h2
        omega
      have hR9 := pow10_le (by omega) hc y3
      refine ⟨y'0, by omega, fun _ => by grind, fun _ => yb, by omega, A', i', ?_⟩
      have hp := half_pow e
      obtain ⟨k, rfl⟩ : ∃ k, R = k + 2 := ⟨R - 2, by omega⟩
      unfold aB at bA ⊢
      push_cast at bA ⊢
      generalize 1 / (2 : Rat) ^ (k + 2 + 1) = t at *
      grind
theorem redOk_B {x M : Int} (hM : 1000 ≤ M) (hx : M ≤ x) (hx2 : x ≤ 10 * M) : RedOk x M := by
  intro R y h
  have c := chainB hM hx hx2 h
  have hPi : (0 : Int) < 2 ^ R := Int.pow_pos (by decide)
  have hr0 : 0 ≤ divN y (2 ^ R) := le_divN hPi (by omega)
  exact ⟨by omega, by omega, by omega, by omega⟩
/-- the answer of _ilog from one up to ten -/
theorem ilog_B {p : Nat} {x M D : Int} (hp : 3 ≤ p) (hM : M = 10 ^ p) (hMk : 1000 ≤ M) (hx : M ≤ x) (hx2 : x ≤ 10 * M) (hD : IsIlog p x M D) :
    Lg (((D : Rat) - 31) / M) ((x : Rat) / M) ∧ Ug (((D : Rat) + 31) / M) ((x : Rat) / M) := by
  obtain ⟨R, y, hr, hc, rfl⟩ := hD
  obtain ⟨y0, y9, yb1, yb2, hR10, A, iA, bA⟩ := chainB hMk hx hx2 hr
  have hm := cast_k hMk
  have hm0 : (0 : Rat) < M := by grind
  have y0q : (0 : Rat) ≤ y := by exact_mod_cast y0
  have y4 : (y : Rat) ≤ 4 * M := by
    have h1 : y ≤ 4 * M := by
      have h2 : (2 : Int) ^ R ≤ 1024 := by
        obtain ⟨k, hk⟩ := Nat.le.dest hR10
        have : (2 : Int) ^ 10 = 2 ^ R * 2 ^ k := by rw [← Int.pow_add, hk]
        have h3 : (0 : Int) < 2 ^ R := Int.pow_pos (by decide)
        have h4 : (0 : Int) < 2 ^ k := Int.pow_pos (by decide)
        have := Int.mul_le_mul_of_nonneg_left (show (1 : Int) ≤ 2 ^ k by omega) (Int.le_of_lt h3)
        have e : (2 : Int) ^ 10 = 1024 := by decide
        omega
      have := Int.mul_le_mul_of_nonneg_left h2 (show 0 ≤ M by omega)
      omega
    have := Rat.intCast_le_intCast.mpr h1
    rw [Rat.intCast_mul] at this
    exact this
  have f := il_final (κ := 1 / 2) (Y := 4 * (M : Rat)) hp hM iA hc (Or.inl rfl) (by grind) y4
  have aM : A * M ≤ 53 / 2 := by
    have : aB R ≤ 53 / 2 := by
      have hR : R = 0 ∨ R = 1 ∨ 2 ≤ R := by omega
      rcases hR with e | e | e
      · subst e; unfold aB; grind
      · subst e; unfold aB; grind
      · obtain ⟨k, rfl⟩ : ∃ k, R = k + 2 := ⟨R - 2, by omega⟩
        unfold aB
        have : ((k + 2 : Nat) : Rat) ≤ ((10 : Nat) : Rat) := by exact_mod_cast hR10
        push_cast at this ⊢
        grind
    grind
  have e4 : 4 * (M : Rat) / M = 4 := by have : (M : Rat) ≠ 0 := by grind
                                        grind
  rw [e4] at f
  generalize (ilTail p M R y : Rat) = D at *
  constructor
  · refine f.1.mono (rdiv_le hm0 ?_) Rat.le_refl
    rw [fld3 hm0]; grind
  · refine f.2.mono (rdiv_le hm0 ?_) Rat.le_refl
    rw [fld3 hm0]; grind
end Mine

end
section
namespace Mine
theorem ieT_nonneg {Ms x : Int} {T : Nat} (hx : 0 ≤ x) (hM : 256 * x < Ms) (hT : 0 < T) : ∀ i, i + 1 ≤ T → 0 ≤ ieT Ms x T i ∧ ieT Ms x T i ≤ 2 * x
  | 0, _ => (ieT_start (Ms := Ms) hx hT).2
  | i + 1, h => by
    have ih := ieT_nonneg hx hM hT i (by omega)
    exact ieT_bound hx hM (by omega) ih.1 ih.2
theorem uE_bound {r : Rat} (h0 : 0 ≤ r) (h1 : r ≤ 1 / 256) {T : Nat} (hT : 1 ≤ T) : ∀ i, i + 1 ≤ T → 0 ≤ uE r T i ∧ uE r T i ≤ 1 / 128
  | 0, _ => by
    rw [uE]
    have hq : (1 : Rat) ≤ T := by exact_mod_cast hT
    refine ⟨le_rdiv (by grind) (by grind), rdiv_le (by grind) (by grind)⟩
  | i + 1, h => by
    obtain ⟨a, b⟩ := uE_bound h0 h1 hT i (by omega)
    rw [uE]
    have hq : (1 : Rat) ≤ ((T - 1 - i : Nat) : Rat) := by exact_mod_cast (show 1 ≤ T - 1 - i by omega)
    generalize ((T - 1 - i : Nat) : Rat) = k at *
    have c1 : 0 ≤ r / k := le_rdiv (by grind) (by grind)
    have c2 : r / k ≤ 1 / 256 := rdiv_le (by grind) (by grind)
    have k1 := Rat.mul_nonneg c1 (show 0 ≤ 1 + uE r T i by grind)
    have k2 := Rat.mul_nonneg (show 0 ≤ 1 / 256 - r / k by grind) (show 0 ≤ 1 + uE r T i by grind)
    exact ⟨by grind, by grind⟩
theorem fldT {r Ms y k : Rat} (hM : 0 < Ms) (hk : 0 < k) : r * Ms * (Ms + y) / (Ms * k) = r / k * (Ms + y) := by
  have h1 : Ms ≠ 0 := by grind
  have h2 : k ≠ 0 := by grind
  grind
/-- the Taylor loop of ints against the ideal one -/
theorem ieT_err {Ms x : Int} {r : Rat} {T : Nat} (hT : 1 ≤ T) (hMs : 0 < Ms) (h0 : 0 ≤ r) (hr : r * Ms = x) (hr2 : r ≤ 1 / 256) : ∀ i, i + 1 ≤ T →
    -(503 / 1000 : Rat) ≤ (ieT Ms x T i : Rat) - Ms * uE r T i ∧ (ieT Ms x T i : Rat) - Ms * uE r T i ≤ 503 / 1000
  | 0, _ => by
    have d := divN_rat x (b := (T : Int)) (by omega)
    rw [ieT, uE]
    have e : (Ms : Rat) * (r / (T : Rat)) = (x : Rat) / ((T : Int) : Rat) := by
      rw [Rat.intCast_natCast, ← hr]
      grind
    rw [e]
    constructor <;> grind
  | i + 1, h => by
    obtain ⟨a, b⟩ := ieT_err hT hMs h0 hr hr2 i (by omega)
    have k1 : (T : Int) - 1 - i = ((T - 1 - i : Nat) : Int) := by omega
    rw [ieT, uE, k1]
    have hk : (0 : Int) < ((T - 1 - i : Nat) : Int) := by omega
    have d := divN_rat (x * (Ms + ieT Ms x T i)) (b := Ms * ((T - 1 - i : Nat) : Int)) (Int.mul_pos hMs hk)
    have hm : (0 : Rat) < Ms := by exact_mod_cast hMs
    have hkq : (1 : Rat) ≤ ((T - 1 - i : Nat) : Rat) := by exact_mod_cast (show 1 ≤ T - 1 - i by omega)
    have e1 : ((x * (Ms + ieT Ms x T i) : Int) : Rat) = r * Ms * (Ms + ieT Ms x T i) := by rw [hr]; push_cast; rfl
    have e2 : ((Ms * ((T - 1 - i : Nat) : Int) : Int) : Rat) = Ms * ((T - 1 - i : Nat) : Rat) := by rw [Rat.intCast_mul, Rat.intCast_natCast]
    rw [e1, e2, fldT hm (by grind)] at d
    generalize (divN (x * (Ms + ieT Ms x T i)) (Ms * ((T - 1 - i : Nat) : Int)) : Rat) = D at *
    generalize ((T - 1 - i : Nat) : Rat) = k at *
    generalize (ieT Ms x T i : Rat) = y at *
    generalize uE r T i = u at *
    generalize (Ms : Rat) = m at *
    have c1 : 0 ≤ r / k := le_rdiv (by grind) (by grind)
    have c2 : r / k ≤ 1 / 256 := rdiv_le (by grind) (by grind)
    have p := rabs_mul (a := r / k) (A := 1 / 256) (by grind) c2 a b
    have e3 : r / k * (m + y) - m * (r / k * (1 + u)) = r / k * (y - m * u) := by grind
    generalize r / k = q at *
    constructor <;> grind
theorem pow_pos_q {M : Int} {R : Nat} (hM : 0 < M) : (0 : Rat) < M * 2 ^ R := by
  have hm : (0 : Rat) < M := by exact_mod_cast hM
  exact Rat.mul_pos hm (c2pos R)
theorem cast_M2 (M : Int) (R : Nat) : ((M * 2 ^ R : Int) : Rat) = M * 2 ^ R := by rw [Rat.intCast_mul, cast_two_pow]
theorem base_lo {y e N u G w : Rat} (hN : 0 < N) (a : y - N * u ≤ 503 / 1000) (hw : 0 ≤ w) (he : 503 / 1000 + w / 30 ≤ e) (u1 : 1 + u = G) : 1 + (y - e) / N ≤ G := by
  have h : (y - e) / N ≤ u := rdiv_le hN (by grind)
  grind
theorem base_hi {y e N u G w t r P X m : Rat} (hN : 0 < N) (hr : r * N = X) (exM : w * m = X) (a : -(503 / 1000) ≤ y - N * u) (hw : 0 ≤ w) (he : 503 / 1000 + w / 30 ≤ e) (u1 : 1 + u = G) (sm : 6 * t ≤ r * P) (h2 : P * (10 * m) ≤ 1) : G + 2 * t ≤ 1 + (y + e) / N := by
  have k1 := Rat.mul_nonneg (show 0 ≤ r * P - 6 * t by grind) (Rat.le_of_lt hN)
  have e6 : r * P * N = X * P := by rw [← hr]; grind
  have k2 := Rat.mul_nonneg hw (show 0 ≤ 1 - P * (10 * m) by grind)
  have e7 : X * P = w * (P * m) := by rw [← exM]; grind
  have h : u + 2 * t ≤ (y + e) / N := le_rdiv hN (by grind)
  grind
theorem base_up {y N u u0 r X : Rat} (hr : r * N = X) (hx : 0 ≤ X) (us : u = r * (1 + u0)) (ub : u0 ≤ 1 / 128) (a : y - N * u ≤ 503 / 1000) : y ≤ X * (129 / 128) + 503 / 1000 := by
  have k1 := Rat.mul_nonneg hx (show 0 ≤ 1 / 128 - u0 by grind)
  have e5 : N * u = X * (1 + u0) := by rw [us, ← hr]; grind
  grind
/-- what the Taylor loop tells -/
theorem ie_base {p R : Nat} {x M : Int} {e : Rat} (hp : 3 ≤ p) (hM : M = 10 ^ p) (hx : 0 ≤ x) (hR : 256 * x < M * 2 ^ R) (he : 503 / 1000 + (x : Rat) / (30 * M) ≤ e) :
    0 ≤ ieY p x M R ∧ (ieY p x M R : Rat) ≤ (x : Rat) * (129 / 128) + 503 / 1000 ∧
    Ug ((x : Rat) / (M * 2 ^ R)) (1 + ((ieY p x M R : Rat) - e) / (M * 2 ^ R)) ∧ Lg ((x : Rat) / (M * 2 ^ R)) (1 + ((ieY p x M R : Rat) + e) / (M * 2 ^ R)) := by
  have hM0 : 0 < M := by rw [hM]; exact Int.pow_pos (by decide)
  have hm : (0 : Rat) < M := by exact_mod_cast hM0
  have hMs : 0 < M * 2 ^ R := by omega
  have hN := pow_pos_q (R := R) hM0
  have hxq : (0 : Rat) ≤ x := by exact_mod_cast hx
  have hT := tays_two hp
  have hRq : 256 * (x : Rat) ≤ M * 2 ^ R := by
    have := Rat.intCast_le_intCast.mpr (Int.le_of_lt hR)
    rw [Rat.intCast_mul, cast_M2] at this
    exact this
  have h0 : 0 ≤ (x : Rat) / (M * 2 ^ R) := le_rdiv hN (by grind)
  have h1 : (x : Rat) / (M * 2 ^ R) ≤ 1 / 256 := rdiv_le hN (by grind)
  have hr : (x : Rat) / (M * 2 ^ R) * ((M * 2 ^ R : Int) : Rat) = x := by rw [cast_M2]; exact fld3 hN
  have nn := ieT_nonneg (Ms := M * 2 ^ R) (T := tays p) hx hR (by omega) (tays p - 1) (by omega)
  have er := ieT_err (Ms := M * 2 ^ R) (T := tays p) (by omega) hMs h0 hr h1 (tays p - 1) (by omega)
  have u1 := uE_one ((x : Rat) / (M * 2 ^ R)) (T := tays p) (by omega)
  have ub := uE_bound h0 h1 (T := tays p) (by omega) (tays p - 2) (by omega)
  have us : uE ((x : Rat) / (M * 2 ^ R)) (tays p) (tays p - 1) = (x : Rat) / (M * 2 ^ R) * (1 + uE ((x : Rat) / (M * 2 ^ R)) (tays p) (tays p - 2)) := by
    obtain ⟨S, hS⟩ : ∃ S, tays p = S + 2 := ⟨tays p - 2, by omega⟩
    rw [hS, show S + 2 - 1 = S + 1 by omega, show S + 2 - 2 = S by omega, uE, show S + 2 - 1 - S = 1 by omega]
    push_cast
    grind
  have lo := exp_lo h0 (by grind) (tays p - 1)
  have hi := exp_hi h0 (by grind) (tays p - 1)
  rw [show tays p - 1 + 1 = tays p by omega] at lo hi
  rw [show tays p - 1 + 2 = (tays p - 2) + 3 by omega] at hi
  have sm := et_small h0 h1 (tays p - 2)
  rw [show tays p - 2 + 2 = tays p by omega] at sm
  -- 256^T is no less than 10 M
  have hb := tays_big p
  have hbq : (10 : Rat) * M ≤ 256 ^ tays p := by
    have : ((10 ^ (p + 1) : Nat) : Rat) ≤ ((256 ^ tays p : Nat) : Rat) := by exact_mod_cast hb
    have e1 : ((10 ^ (p + 1) : Nat) : Rat) = 10 * M := by
      rw [hM, Rat.intCast_pow, show (((10 : Int)) : Rat) = 10 from rfl]
      push_cast
      rw [Rat.pow_succ]; grind
    have e2 : ((256 ^ tays p : Nat) : Rat) = 256 ^ tays p := by push_cast; rfl
    grind
  have e3 : (1 / 256 : Rat) ^ tays p * 256 ^ tays p = 1 := by
    rw [← rmul_pow, show (1 / 256 : Rat) * 256 = 1 by grind, one_rpow]
  have hPp : (0 : Rat) < (1 / 256) ^ tays p := rpow_pos (by grind) _
  have h2 : (1 / 256 : Rat) ^ tays p * (10 * M) ≤ 1 := by
    have := Rat.mul_le_mul_of_nonneg_left hbq (Rat.le_of_lt hPp)
    grind
  have eY : ieY p x M R = ieT (M * 2 ^ R) x (tays p) (tays p - 1) := rfl
  rw [← eY, cast_M2] at er
  rw [← eY] at nn
  rw [cast_M2] at hr
  have ex30 : (x : Rat) / (30 * M) = (x : Rat) / M / 30 := by have : (M : Rat) ≠ 0 := by grind
                                                              grind
  have exM : (x : Rat) / M * M = x := fld3 hm
  have exM0 : 0 ≤ (x : Rat) / M := le_rdiv hm (by grind)
  rw [ex30] at he
  exact ⟨nn.1, base_up hr hxq us ub.2 er.2, lo.mono Rat.le_refl (base_lo hN er.2 exM0 he u1), hi.mono Rat.le_refl (base_hi hN hr exM er.1 exM0 he u1 sm h2)⟩
theorem fldD {n y : Rat} (hn : 0 < n) : y * (y + 4 * n) / (4 * n) = y + y * y / (4 * n) := by
  have : n ≠ 0 := by grind
  grind
/-- one doubling -/
theorem dbl_step {n y : Int} {r e e' : Rat} (hn : 0 < n) (h0 : 0 ≤ y) (he : 0 ≤ e) (hl : Lg r (1 + ((y : Rat) + e) / (2 * n))) (hu : Ug r (1 + ((y : Rat) - e) / (2 * n))) (hpos : e < 2 * n)
    (he' : 1 / 2 + e * (1 + (2 * y + e) / (4 * n)) ≤ e') :
    Lg (2 * r) (1 + ((divN (y * (y + 4 * n)) (4 * n) : Rat) + e') / n) ∧ Ug (2 * r) (1 + ((divN (y * (y + 4 * n)) (4 * n) : Rat) - e') / n) := by
  have hnq : (0 : Rat) < n := by exact_mod_cast hn
  have hyq : (0 : Rat) ≤ y := by exact_mod_cast h0
  have d := divN_rat (y * (y + 4 * n)) (b := 4 * n) (by omega)
  have e1 : ((y * (y + 4 * n) : Int) : Rat) = y * (y + 4 * n) := by push_cast; rfl
  have e2 : ((4 * n : Int) : Rat) = 4 * n := by push_cast; rfl
  rw [e1, e2, fldD hnq] at d
  generalize (divN (y * (y + 4 * n)) (4 * n) : Rat) = D at *
  generalize (y : Rat) = z at *
  generalize (n : Rat) = m at *
  have m0 : m ≠ 0 := by grind
  have e3 : ∀ q : Rat, (1 + q / (2 * m)) * (1 + q / (2 * m)) = 1 + (q + q * q / (4 * m)) / m := by intro q; grind
  have pos : 0 < 1 + (z - e) / (2 * m) := by
    have : -1 < (z - e) / (2 * m) := by
      rcases rlt_or_le (-1) ((z - e) / (2 * m)) with g | g
      · exact g
      · have h5 := Rat.mul_le_mul_of_nonneg_right g (show (0 : Rat) ≤ 2 * m by grind)
        rw [fld3 (show (0 : Rat) < 2 * m by grind)] at h5
        grind
    grind
  have a := Lg.add hl hl
  have b := Ug.add pos hu hu
  rw [e3] at a b
  have e4 : (z + e) + (z + e) * (z + e) / (4 * m) = z + z * z / (4 * m) + e * (1 + (2 * z + e) / (4 * m)) := by grind
  have e5 : (z - e) + (z - e) * (z - e) / (4 * m) = z + z * z / (4 * m) - e * (1 + (2 * z - e) / (4 * m)) := by grind
  have e6 : e * (1 + (2 * z - e) / (4 * m)) ≤ e * (1 + (2 * z + e) / (4 * m)) := by
    have : (2 * z - e) / (4 * m) ≤ (2 * z + e) / (4 * m) := by
      refine rdiv_le (by grind) ?_
      rw [fld3 (show (0 : Rat) < 4 * m by grind)]; grind
    have := Rat.mul_nonneg he (show 0 ≤ (2 * z + e) / (4 * m) - (2 * z - e) / (4 * m) by grind)
    grind
  rw [e4] at a
  rw [e5] at b
  refine ⟨a.mono (by grind) ?_, b.mono (by grind) ?_⟩
  · have : (z + z * z / (4 * m) + e * (1 + (2 * z + e) / (4 * m))) / m ≤ (D + e') / m := by
      refine rdiv_le hnq ?_
      rw [fld3 hnq]; grind
    grind
  · have : (D - e') / m ≤ (z + z * z / (4 * m) - e * (1 + (2 * z - e) / (4 * m))) / m := by
      refine rdiv_le hnq ?_
      rw [fld3 hnq]; grind
    grind
end Mine

end
section
namespace Mine
/-- bounds of y / (M 2^L) and of its error, level by level -/
def zh : Nat → Rat
  | 0 => 9343247 / 1000000
  | 1 => 1108007 / 500000
  | 2 => 158651 / 200000
  | 3 => 169539 / 500000
  | 4 => 78579 / 500000
  | 5 => 37849 / 500000
  | 6 => 37151 / 1000000
  | 7 => 9201 / 500000
  | 8 => 9157 / 1000000
  | 9 => 4567 / 1000000
  | _ => 57 / 25000
def eh : Nat → Rat
  | 0 => 223167 / 5000
  | 1 => 34271 / 2500
  | 2 => 36809 / 5000
  | 3 => 5123 / 1000
  | 4 => 39947 / 10000
  | 5 => 16243 / 5000
  | 6 => 53 / 20
  | 7 => 21111 / 10000
  | 8 => 3991 / 2500
  | 9 => 5457 / 5000
  | _ => 59 / 100
theorem zh_step : ∀ L : Fin 10, 2 * zh (L + 1) + zh (L + 1) * zh (L + 1) + 1 / (2000 * 2 ^ (L : Nat)) ≤ zh L := by decide +kernel
theorem eh_step : ∀ L : Fin 10, 1 / 2 + eh (L + 1) * (1 + zh (L + 1) + eh (L + 1) / (4000 * 2 ^ (L : Nat))) ≤ eh L := by decide +kernel
theorem zh_base : ∀ L : Fin 10, (1 / 256 * (129 / 128) : Rat) + 503 / (1000000 * 2 ^ (L : Nat)) ≤ zh L := by decide +kernel
theorem zh_top : (231 / 102400 * (129 / 128) : Rat) + 503 / (1000000 * 2 ^ 10) ≤ zh 10 := by decide +kernel
theorem eh_base : ∀ L : Fin 11, (59 / 100 : Rat) ≤ eh L := by decide +kernel
theorem eh_small : ∀ L : Fin 11, eh L ≤ 45 := by decide +kernel
theorem zh_size : ∀ L : Fin 11, zh L * 2 ^ (L : Nat) ≤ 11 ∧ 0 ≤ zh L := by decide +kernel
theorem ge_k {M : Int} (hM : 1000 ≤ M) (L : Nat) : (1000 : Rat) * 2 ^ L ≤ M * 2 ^ L := by
  have := Rat.mul_nonneg (show (0 : Rat) ≤ M - 1000 by have := cast_k hM; grind) (Rat.le_of_lt (c2pos L))
  grind
theorem dbl_num {n P y z z' D : Rat} (hP : 0 < P) (hn : 1000 * P ≤ n) (hy : y ≤ z * (2 * n)) (y0 : 0 ≤ y) (hd : D ≤ y + y * y / (4 * n) + 1 / 2) (hz : 2 * z + z * z + 1 / (2000 * P) ≤ z') : D ≤ z' * n := by
  have hn0 : 0 < n := by grind
  have e1 : 1 / (2000 * P) * (2000 * P) = 1 := fld3 (by grind)
  have i0 : 0 < 1 / (2000 * P) := rdiv_pos (by grind) (by grind)
  have k1 := Rat.mul_nonneg (Rat.le_of_lt i0) (show 0 ≤ n - 1000 * P by grind)
  have k2 := Rat.mul_nonneg (show 0 ≤ z' - (2 * z + z * z + 1 / (2000 * P)) by grind) (Rat.le_of_lt hn0)
  have k3 : y * y / (4 * n) ≤ z * z * n := by
    refine rdiv_le (by grind) ?_
    have a := Rat.mul_nonneg (show 0 ≤ z * (2 * n) - y by grind) (show 0 ≤ z * (2 * n) + y by grind)
    grind
  generalize 1 / (2000 * P) = i at *
  grind
theorem dbl_num2 {n P y z e e' : Rat} (hP : 0 < P) (hn : 1000 * P ≤ n) (hy : y ≤ z * (2 * n)) (he0 : 0 ≤ e) (he : 1 / 2 + e * (1 + z + e / (4000 * P)) ≤ e') : 1 / 2 + e * (1 + (2 * y + e) / (4 * n)) ≤ e' := by
  have hn0 : 0 < n := by grind
  have k : (2 * y + e) / (4 * n) ≤ z + e / (4000 * P) := by
    refine rdiv_le (by grind) ?_
    have e1 : e / (4000 * P) * (4000 * P) = e := fld3 (by grind)
    have i0 : 0 ≤ e / (4000 * P) := le_rdiv (by grind) (by grind)
    have k1 := Rat.mul_nonneg i0 (show 0 ≤ n - 1000 * P by grind)
    grind
  have := Rat.mul_nonneg he0 (show 0 ≤ z + e / (4000 * P) - (2 * y + e) / (4 * n) by grind)
  grind
/-- the state at level L -/
def LevAt (x M : Int) (L : Nat) (y : Int) : Prop := 0 ≤ y ∧ (y : Rat) ≤ zh L * (M * 2 ^ L) ∧ Lg ((x : Rat) / (M * 2 ^ L)) (1 + ((y : Rat) + eh L) / (M * 2 ^ L)) ∧ Ug ((x : Rat) / (M * 2 ^ L)) (1 + ((y : Rat) - eh L) / (M * 2 ^ L))
theorem lev_step {x M y : Int} {L : Nat} (hM : 1000 ≤ M) (hL : L < 10) (h : LevAt x M (L + 1) y) : LevAt x M L (divN (y * (y + 4 * (M * 2 ^ L))) (4 * (M * 2 ^ L))) := by
  obtain ⟨y0, yz, hl, hu⟩ := h
  have hPi : (0 : Int) < 2 ^ L := Int.pow_pos (by decide)
  have hn : 0 < M * 2 ^ L := Int.mul_pos (by omega) hPi
  have hP := c2pos L
  have hk := ge_k hM L
  have hnq : (0 : Rat) < M * 2 ^ L := by grind
  have e1 : (M : Rat) * 2 ^ (L + 1) = 2 * (M * 2 ^ L) := by rw [Rat.pow_succ]; grind
  rw [e1] at yz hl hu
  have zs := zh_step ⟨L, hL⟩
  have es := eh_step ⟨L, hL⟩
  have eb := eh_base ⟨L + 1, by omega⟩
  have esm := eh_small ⟨L + 1, by omega⟩
  simp only [Fin.val_mk] at zs es eb esm
  have yq : (0 : Rat) ≤ y := by exact_mod_cast y0
  have hP1 := two_pow_ge L
  have d := divN_rat (y * (y + 4 * (M * 2 ^ L))) (b := 4 * (M * 2 ^ L)) (by omega)
  have c1 : ((y * (y + 4 * (M * 2 ^ L)) : Int) : Rat) = y * (y + 4 * (M * 2 ^ L)) := by rw [Rat.intCast_mul, Rat.intCast_add, Rat.intCast_mul, cast_M2]; rfl
  have c2 : ((4 * (M * 2 ^ L) : Int) : Rat) = 4 * (M * 2 ^ L) := by rw [Rat.intCast_mul, cast_M2]; rfl
  rw [c1, c2, fldD hnq] at d
  have st := dbl_step (n := M * 2 ^ L) (y := y) (r := (x : Rat) / (2 * (M * 2 ^ L))) (e := eh (L + 1)) (e' := eh L) hn y0 (by grind) (by rw [cast_M2]; exact hl) (by rw [cast_M2]; exact hu) (by rw [cast_M2]; grind) (by rw [cast_M2]; exact dbl_num2 hP hk yz (by grind) es)
  rw [cast_M2] at st
  have e2 : 2 * ((x : Rat) / (2 * (M * 2 ^ L))) = (x : Rat) / (M * 2 ^ L) := by
    generalize (M : Rat) * 2 ^ L = n at *
    have : n ≠ 0 := by grind
    grind
  rw [e2] at st
  refine ⟨le_divN (by omega) ?_, dbl_num hP hk yz yq (by grind) zs, st.1, st.2⟩
  rw [Int.zero_mul]
  exact Int.mul_nonneg y0 (by omega)
theorem lev_R {x M : Int} {R : Nat} (hM : 0 < M) (hx2 : 100 * x ≤ 231 * M) (hRR : R = 0 ∨ M * 2 ^ R ≤ 512 * x) : R ≤ 10 := by
  rcases hRR with h | h
  · omega
  · rcases Nat.lt_or_ge 10 R with g | g
    · exfalso
      obtain ⟨k, rfl⟩ : ∃ k, R = 11 + k := ⟨R - 11, by omega⟩
      rw [Int.pow_add] at h
      have : (0 : Int) < 2 ^ k := Int.pow_pos (by decide)
      have h1 : M * 2048 ≤ M * (2 ^ 11 * 2 ^ k) := Int.mul_le_mul_of_nonneg_left (by
        have : (2 : Int) ^ 11 = 2048 := by decide
        omega) (by omega)
      omega
    · exact g
theorem base_z {y X N z i c : Rat} (hb : y ≤ X * (129 / 128) + 503 / 1000) (hX : X ≤ c * N) (hz : c * (129 / 128) + i ≤ z) (hN : 0 ≤ N) (hi : 503 / 1000 ≤ i * N) : y ≤ z * N := by
  have := Rat.mul_nonneg (show 0 ≤ z - (c * (129 / 128) + i) by grind) hN
  grind
theorem lev_base {p R : Nat} {x M : Int} (hp : 3 ≤ p) (hM : M = 10 ^ p) (hx : 0 ≤ x) (hx2 : 100 * x ≤ 231 * M) (hR : 256 * x < M * 2 ^ R) (hRR : R = 0 ∨ M * 2 ^ R ≤ 512 * x) : LevAt x M R (ieY p x M R) := by
  have hMk : 1000 ≤ M := by
    rw [hM]
    obtain ⟨q, rfl⟩ : ∃ q, p = 3 + q := ⟨p - 3, by omega⟩
    rw [Int.pow_add]
    have : (0 : Int) < 10 ^ q := Int.pow_pos (by decide)
    have : (10 : Int) ^ 3 = 1000 := by decide
    omega
  have hR10 := lev_R (by omega) hx2 hRR
  have hm := cast_k hMk
  have hm0 : (0 : Rat) < M := by grind
  have hx2q : 100 * (x : Rat) ≤ 231 * M := by
    have := Rat.intCast_le_intCast.mpr hx2
    rw [Rat.intCast_mul, Rat.intCast_mul] at this
    exact this
  have hRq : 256 * (x : Rat) ≤ M * 2 ^ R := by
    have := Rat.intCast_le_intCast.mpr (Int.le_of_lt hR)
    rw [Rat.intCast_mul, cast_M2] at this
    exact this
  have eb := eh_base ⟨R, by omega⟩
  have x30 : (x : Rat) / (30 * M) ≤ 231 / 3000 := rdiv_le (by grind) (by grind)
  obtain ⟨a, b, c, d⟩ := ie_base (R := R) (e := eh R) hp hM hx hR (by grind)
  refine ⟨a, ?_, d, c⟩
  have hk := ge_k hMk R
  have hP := c2pos R
  have i0 : 0 < 503 / (1000000 * (2 : Rat) ^ R) := rdiv_pos (by grind) (by grind)
  have e1 : 503 / (1000000 * (2 : Rat) ^ R) * (1000000 * 2 ^ R) = 503 := fld3 (by grind)
  have k1 := Rat.mul_nonneg (Rat.le_of_lt i0) (show (0 : Rat) ≤ M * 2 ^ R - 1000 * 2 ^ R by grind)
  have hi : 503 / 1000 ≤ 503 / (1000000 * (2 : Rat) ^ R) * (M * 2 ^ R) := by grind
  have hN0 : (0 : Rat) ≤ M * 2 ^ R := by grind
  rcases Nat.lt_or_ge R 10 with g | g
  · exact base_z (c := 1 / 256) b (by grind) (zh_base ⟨R, g⟩) hN0 hi
  · obtain rfl : R = 10 := by omega
    have e10 : (2 : Rat) ^ 10 = 1024 := by decide +kernel
    exact base_z (c := 231 / 102400) b (by rw [e10]; grind) zh_top hN0 hi
/-- all levels -/
theorem lev_all {p R : Nat} {x M : Int} (hp : 3 ≤ p) (hM : M = 10 ^ p) (hMk : 1000 ≤ M) (hx : 0 ≤ x) (hx2 : 100 * x ≤ 231 * M) (hR : 256 * x < M * 2 ^ R) (hRR : R = 0 ∨ M * 2 ^ R ≤ 512 * x) : ∀ j, j ≤ R → LevAt x M (R - j) (ieD M (ieY p x M R) R j)
  | 0, _ => lev_base hp hM hx hx2 hR hRR
  | j + 1, h => by
    have ih := lev_all hp hM hMk hx hx2 hR hRR j (by omega)
    have hR10 := lev_R (show 0 < M by omega) hx2 hRR
    obtain ⟨L, hL⟩ : ∃ L, R - j = L + 1 := ⟨R - j - 1, by omega⟩
    rw [hL] at ih
    have st := lev_step hMk (by omega) ih
    have e1 : R - (j + 1) = L := by omega
    have e2 : M * 2 ^ (R + 1 - j) = 4 * (M * 2 ^ L) := by
      rw [show R + 1 - j = L + 2 by omega, Int.pow_add, show (2 : Int) ^ 2 = 4 by decide]; grind
    rw [e1, ieD, e2]
    exact st
theorem ie_ok {p : Nat} {x M : Int} (hp : 3 ≤ p) (hM : M = 10 ^ p) (hx : 0 ≤ x) (hx2 : 100 * x ≤ 231 * M) : IeOk p x M := by
  intro R hR hRR
  have hM0 : 0 < M := by rw [hM]; exact Int.pow_pos (by decide)
  have hR10 := lev_R hM0 hx2 hRR
  have hMk : 1000 ≤ M := by
    rw [hM]
    obtain ⟨q, rfl⟩ : ∃ q, p = 3 + q := ⟨p - 3, by omega⟩
    rw [Int.pow_add]
    have : (0 : Int) < 10 ^ q := Int.pow_pos (by decide)
    have : (10 : Int) ^ 3 = 1000 := by decide
    omega
  refine ⟨by omega, fun j hj => ?_⟩
  obtain ⟨a, b, _, _⟩ := lev_all hp hM hMk hx hx2 hR hRR j hj
  refine ⟨a, ?_⟩
  have z := (zh_size ⟨R - j, by omega⟩).1
  have hm : (0 : Rat) < M := by exact_mod_cast hM0
  have k := Rat.mul_nonneg (show (0 : Rat) ≤ 11 - zh (R - j) * 2 ^ (R - j) by grind) (Rat.le_of_lt hm)
  have h2 : (ieD M (ieY p x M R) R j : Rat) ≤ ((11 * M : Int) : Rat) := by
    rw [Rat.intCast_mul, show (((11 : Int)) : Rat) = 11 from rfl]
    grind
  have := Rat.intCast_le_intCast.mp h2
  omega
/-- the answer of _iexp against exp -/
theorem ie_final {p : Nat} {x M E : Int} (hp : 3 ≤ p) (hM : M = 10 ^ p) (hMk : 1000 ≤ M) (hx : 0 ≤ x) (hx2 : 100 * x ≤ 231 * M) (h : IsIexp p x M E) :
    M ≤ E ∧ (E : Rat) ≤ (1 + zh 0) * M ∧ Lg ((x : Rat) / M) (((E : Rat) + eh 0) / M) ∧ Ug ((x : Rat) / M) (((E : Rat) - eh 0) / M) := by
  obtain ⟨R, hR, hRR, rfl⟩ := h
  obtain ⟨a, b, c, d⟩ := lev_all hp hM hMk hx hx2 hR hRR R (Nat.le_refl R)
  rw [Nat.sub_self, Rat.pow_zero, Rat.mul_one] at b c d
  have hm := cast_k hMk
  have hm0 : (M : Rat) ≠ 0 := by grind
  generalize ieD M (ieY p x M R) R R = y at *
  have ec : ((M + y : Int) : Rat) = M + y := by push_cast; rfl
  rw [ec]
  have e1 : 1 + ((y : Rat) + eh 0) / M = ((M : Rat) + y + eh 0) / M := by grind
  have e2 : 1 + ((y : Rat) - eh 0) / M = ((M : Rat) + y - eh 0) / M := by grind
  rw [e1] at c
  rw [e2] at d
  exact ⟨by omega, by grind, c, d⟩
/-- and where x is small -/
theorem ie_small {p : Nat} {x M E : Int} (hp : 3 ≤ p) (hM : M = 10 ^ p) (hMk : 1000 ≤ M) (hx : 0 ≤ x) (hx2 : 256 * x < M) (h : IsIexp p x M E) :
    M ≤ E ∧ (E : Rat) ≤ M + x * (129 / 128) + 503 / 1000 ∧ Lg ((x : Rat) / M) (((E : Rat) + 51 / 100) / M) ∧ Ug ((x : Rat) / M) (((E : Rat) - 51 / 100) / M) := by
  obtain ⟨R, hR, hRR, rfl⟩ := h
  have hR0 : R = 0 := by
    rcases hRR with h | h
    · exact h
    · rcases Nat.eq_zero_or_pos R with g | g
      · exact g
      · exfalso
        obtain ⟨k, rfl⟩ : ∃ k, R = 1 + k := ⟨R - 1, by omega⟩
        rw [Int.pow_add] at h
        have : (0 : Int) < 2 ^ k := Int.pow_pos (by decide)
        have h1 : M * 2 ≤ M * (2 ^ 1 * 2 ^ k) := Int.mul_le_mul_of_nonneg_left (by
          have : (2 : Int) ^ 1 = 2 := by decide
          omega) (by omega)
        omega
  subst hR0
  have hm := cast_k hMk
  have hm0 : (M : Rat) ≠ 0 := by grind
  have hx2q : 256 * (x : Rat) ≤ M := by
    have := Rat.intCast_le_intCast.mpr (show 256 * x ≤ M by omega)
    rw [Rat.intCast_mul] at this
    exact this
  have x30 : (x : Rat) / (30 * M) ≤ 1 / 7680 := rdiv_le (by grind) (by grind)
  obtain ⟨a, b, c, d⟩ := ie_base (R := 0) (e := 51 / 100) hp hM hx hR (by grind)
  rw [Rat.pow_zero, Rat.mul_one] at c d
  have e0 : ieD M (ieY p x M 0) 0 0 = ieY p x M 0 := rfl
  rw [e0]
  generalize ieY p x M 0 = y at *
  have ec : ((M + y : Int) : Rat) = M + y := by push_cast; rfl
  rw [ec]
  have e1 : 1 + ((y : Rat) + 51 / 100) / M = ((M : Rat) + y + 51 / 100) / M := by grind
  have e2 : 1 + ((y : Rat) - 51 / 100) / M = ((M : Rat) + y - 51 / 100) / M := by grind
  rw [e1] at d
  rw [e2] at c
  exact ⟨by omega, by grind, d, c⟩
end Mine

end
section
namespace Mine
/-- the series of _law_log -/
def llF (z : Rat) : Nat → Rat
  | 0 => 0
  | n + 1 => llF z n + 2 * z ^ (2 * n + 1) / (2 * n + 1)
theorem llF_eq (z : Rat) : ∀ n : Nat, lgS z (2 * n) - lgS (-z) (2 * n) = llF z n
  | 0 => by simp only [Nat.mul_zero, lgS, llF]; grind
  | n + 1 => by
    have ih := llF_eq z n
    rw [show 2 * (n + 1) = 2 * n + 1 + 1 by omega]
    simp only [lgS, llF]
    have ev : ∀ m : Nat, (-z) ^ (2 * m) = z ^ (2 * m) := by
      intro m
      induction m with
      | zero => rw [Nat.mul_zero, Rat.pow_zero, Rat.pow_zero]
      | succ m ih => rw [show 2 * (m + 1) = 2 * m + 1 + 1 by omega, Rat.pow_succ, Rat.pow_succ, ih, Rat.pow_succ, Rat.pow_succ]; grind
    have e1 : (-z) ^ (2 * n + 1) = -(z ^ (2 * n + 1)) := by rw [Rat.pow_succ, ev, Rat.pow_succ]; grind
    have e2 : (-z) ^ (2 * n + 1 + 1) = z ^ (2 * n + 1 + 1) := by rw [Rat.pow_succ, e1, Rat.pow_succ]; grind
    have e3 : (- -z) = z := by grind
    rw [e3, e1, e2]
    push_cast
    generalize z ^ (2 * n + 1) = A at *
    generalize z ^ (2 * n + 1 + 1) = B at *
    grind
/-- log ((1 + z) / (1 - z)) -/
theorem at_lo {z : Rat} (h0 : 0 ≤ z) (h1 : 2 * z ≤ 1) (n : Nat) : Lg (llF z n - 4 * z ^ (2 * n + 1) / (2 * n + 1)) ((1 + z) / (1 - z)) := by
  have a := tay_lo (s := 1) (u := z) (Or.inl rfl) h0 h1 (2 * n)
  have b := tay_hi (s := -1) (u := z) (Or.inr rfl) h0 h1 (2 * n)
  rw [show (1 : Rat) * z = z by grind] at a
  rw [show (-1 : Rat) * z = -z by grind, show 1 + -z = 1 - z by grind] at b
  have b' := b.inv (by grind)
  have k := Lg.add a b'
  have e := llF_eq z n
  refine k.mono ?_ ?_
  · rw [← e]; push_cast; grind
  · rw [Rat.div_def]; exact Rat.le_refl
theorem at_hi {z : Rat} (h0 : 0 ≤ z) (h1 : 2 * z ≤ 1) (n : Nat) : Ug (llF z n + 4 * z ^ (2 * n + 1) / (2 * n + 1)) ((1 + z) / (1 - z)) := by
  have a := tay_hi (s := 1) (u := z) (Or.inl rfl) h0 h1 (2 * n)
  have b := tay_lo (s := -1) (u := z) (Or.inr rfl) h0 h1 (2 * n)
  rw [show (1 : Rat) * z = z by grind] at a
  rw [show (-1 : Rat) * z = -z by grind, show 1 + -z = 1 - z by grind] at b
  have b' := b.inv (by grind)
  have hi : 0 < (1 - z)⁻¹ := Rat.inv_pos.mpr (by grind)
  have k := Ug.add hi a b'
  have e := llF_eq z n
  refine k.mono ?_ ?_
  · rw [← e]; push_cast; grind
  · rw [Rat.div_def]; exact Rat.le_refl
/-- floor division in the rationals -/
theorem fl_rat (a : Int) {b : Int} (hb : 0 < b) : ((a / b : Int) : Rat) ≤ (a : Rat) / b ∧ (a : Rat) / b - 1 ≤ ((a / b : Int) : Rat) := by
  have hb' : (0 : Rat) < b := by exact_mod_cast hb
  have e1 := Int.mul_ediv_add_emod a b
  have e2 := Int.emod_nonneg a (b := b) (by omega)
  have e3 := Int.emod_lt_of_pos a hb
  have h1 : a / b * b ≤ a := by rw [Int.mul_comm]; omega
  have h2 : a ≤ a / b * b + b := by rw [Int.mul_comm]; omega
  have g1 : ((a / b : Int) : Rat) * b ≤ a := by exact_mod_cast h1
  have g2 : (a : Rat) ≤ ((a / b : Int) : Rat) * b + b := by exact_mod_cast h2
  constructor
  · exact le_rdiv hb' g1
  · have : (a : Rat) / b ≤ ((a / b : Int) : Rat) + 1 := rdiv_le hb' (by grind)
    grind
end Mine
end
section
open PySem PySem.W PyProof.Rows
namespace Mine
theorem l10_pos0 : ∀ q : Fin 47, 0 < l10 q ∧ 10 ^ (q : Nat) * 2302 ≤ 1000 * l10 q ∧ 1000 * l10 q ≤ 2303 * 10 ^ (q : Nat) ∨ (q : Nat) < 3 ∧ 0 < l10 q := by decide +kernel
theorem l10_pos (q : Nat) (h : q ≤ 46) : 0 < l10 q := by
  rcases l10_pos0 ⟨q, by omega⟩ with h | h
  · exact h.1
  · exact h.2
theorem l10_hi {q : Nat} (h : q ≤ 46) (h3 : 3 ≤ q) : 1000 * l10 q ≤ 2303 * 10 ^ q := by
  rcases l10_pos0 ⟨q, by omega⟩ with h | h
  · exact h.2.2
  · have := h.1
    simp only at this
    omega
/-- the rest that _dexp hands to _iexp -/
theorem dxr_ok {n : Nat} {c e : Int} (hn : 3 ≤ n) (hq : n + dxE c e ≤ 46) : 0 ≤ dxR n c e ∧ 100 * dxR n c e ≤ 231 * 10 ^ n := by
  have hl := l10_pos _ hq
  have hh := l10_hi hq (by omega)
  have hp : (0 : Int) < 10 ^ dxE c e := Int.pow_pos (by decide)
  have hpn : (1000 : Int) ≤ 10 ^ n := by
    obtain ⟨k, rfl⟩ : ∃ k, n = 3 + k := ⟨n - 3, by omega⟩
    rw [Int.pow_add]
    have : (0 : Int) < 10 ^ k := Int.pow_pos (by decide)
    have : (10 : Int) ^ 3 = 1000 := by decide
    omega
  have r0 := Int.emod_nonneg (dxC n c e) (b := l10 (n + dxE c e)) (by omega)
  have r1 := Int.emod_lt_of_pos (dxC n c e) hl
  unfold dxR
  generalize dxC n c e % l10 (n + dxE c e) = r at *
  refine ⟨le_divN hp (by omega), ?_⟩
  have b := (divN_bounds r hp).2
  rw [Int.pow_add] at hh
  generalize divN r (10 ^ dxE c e) = d at *
  generalize (10 : Int) ^ dxE c e = P at *
  generalize (10 : Int) ^ n = N at *
  -- 1000 r ≤ 2303 N P; 2 d P ≤ 2 r + P
  rcases Int.lt_or_le (231 * N) (100 * d) with g | g
  · exfalso
    have h1 : (231 * N + 1) * P ≤ 100 * d * P := Int.mul_le_mul_of_nonneg_right (by omega) (by omega)
    have e1 : (231 * N + 1) * P = 231 * (N * P) + P := by grind
    have e2 : 100 * d * P = 100 * (d * P) := by grind
    have h2 : 1000 * P ≤ N * P := Int.mul_le_mul_of_nonneg_right hpn (by omega)
    omega
  · exact g
theorem dxr_ie {n : Nat} {c e : Int} (hn : 3 ≤ n) (hq : n + dxE c e ≤ 46) : IeOk n (dxR n c e) (10 ^ n) := ie_ok hn rfl (dxr_ok hn hq).1 (dxr_ok hn hq).2
theorem dxr_4 {n : Nat} {c e : Int} (hn : 3 ≤ n) (hq : n + dxE c e ≤ 46) : dxR n c e ≤ 4 * 10 ^ n := by
  have := (dxr_ok hn hq)
  have : (0 : Int) < 10 ^ n := Int.pow_pos (by decide)
  omega
/-- a call that gives back this very value -/
abbrev ConV (prog : Program) (w : World) (K : Frag) (p : Program) (loose : List Str) (mean : ExcName → Option Value) (mg mb : Str → Option Value) (d : Nat) (f : Addr) (vs : List Value) (v : Value) : Prop :=
  ∀ (news : List (Addr × Obj)) (dp un : Nat) (gd : Option (List Code)) (cn : Str) (cs : Scope) (a : Addr) (ccd : Value) (cl : List (Str × Addr)) (outer : List Env) (A₀ : Around) (base h₀ : Heap) (L : Addr) (m : Str → Option Value) (s : Shared) (Q E : Value → Shared → Prop),
    Below A₀ base outer h₀ → Fr h₀ L s.heap m → K.In h₀ → News h₀ L s.heap news → Top p loose mean mg mb h₀ → cs.kind = .function →
    dp + d < recursionLimit → un + 8 * d < cLine →
    (∀ (h' : Heap) (tk' : Nat), Fr h₀ L h' m → News h₀ L h' news → Q v { s with heap := h', toks := tk' }) →
      wpAny (model prog w) (ktrTop dp un gd cn cs L a ccd cl outer) (call (.ref f) vs) Q E s
theorem con_retV {h₀ h' : Heap} {L : Addr} {m : Str → Option Value} {news news' : List (Addr × Obj)} {s : Shared} {Q : Value → Shared → Prop} {v u : Value} {tk' : Nat}
   (hret : ∀ (h' : Heap) (tk' : Nat), Fr h₀ L h' m → News h₀ L h' news → Q v { s with heap := h', toks := tk' })
   (hv : u = v) (F : Fr h₀ L h' m) (N : News h₀ L h' news') (hs : ∀ p ∈ news, p ∈ news') : Q u { s with heap := h', toks := tk' } := by
  subst hv
  exact hret _ _ F fun p hp => N p (hs p hp)
theorem isl_n {size : Int} : ((Str.ofString (toString size)).length : Int) + 2 = ((nd size + 2 : Nat) : Int) := by
  have : (Str.ofString (toString size)).length = nd size := rfl
  rw [this]; omega
end Mine
namespace Mine
open PySem PySem.W PyProof.Rows
theorem isl_t {a b : Int} (h : a = b) : Value.bool (a == b) = Value.bool true := by rw [h]; simp
end Mine

end
section
namespace Mine
theorem log10_46 : Lg (23025850929940456840179914546843642076011014886 / 10000000000000000000000000000000000000000000000) 10 ∧ Ug (23025850929940456840179914546843642076011014887 / 10000000000000000000000000000000000000000000000) 10 := by
  constructor
  · have a := at_lo (z := 1 / 9) (by grind) (by grind) 26
    have b := at_lo (z := 3 / 253) (by grind) (by grind) 13
    exact (Lg.add (Lg.pow a 10) (Lg.pow b 3)).mono (by decide +kernel) (by decide +kernel)
  · have a := at_hi (z := 1 / 9) (by grind) (by grind) 26
    have b := at_hi (z := 3 / 253) (by grind) (by grind) 13
    exact (Ug.add (by decide +kernel) (Ug.pow (by decide +kernel) a 10) (Ug.pow (by decide +kernel) b 3)).mono (by decide +kernel) (by decide +kernel)
theorem l10_lo0 : ∀ q : Fin 47, ((l10 q : Int) : Rat) / 10 ^ (q : Nat) ≤ 23025850929940456840179914546843642076011014886 / 10000000000000000000000000000000000000000000000 := by decide +kernel
theorem l10_hi0 : ∀ q : Fin 47, (23025850929940456840179914546843642076011014887 / 10000000000000000000000000000000000000000000000 : Rat) ≤ (((l10 q : Int) : Rat) + 1) / 10 ^ (q : Nat) := by decide +kernel
/-- the digits of the memo against log 10 -/
theorem l10_lg {q : Nat} (h : q ≤ 46) : Lg (((l10 q : Int) : Rat) / 10 ^ q) 10 := log10_46.1.mono (l10_lo0 ⟨q, by omega⟩) Rat.le_refl
theorem l10_ug {q : Nat} (h : q ≤ 46) : Ug ((((l10 q : Int) : Rat) + 1) / 10 ^ q) 10 := log10_46.2.mono (l10_hi0 ⟨q, by omega⟩) Rat.le_refl
end Mine

end
section
namespace Mine
theorem nd_lo {c : Int} (hc : 1 ≤ c) : (10 : Int) ^ (nd c - 1) ≤ c ∧ c < 10 ^ nd c := by
  have h1 := nd_pos c (by omega)
  refine ⟨?_, (nd_le (by omega) h1).mp (Nat.le_refl _)⟩
  rcases Nat.eq_or_lt_of_le h1 with h | h
  · rw [← h]; simpa using hc
  · have := mt (nd_le (x := c) (k := nd c - 1) (by omega) (by omega)).mpr (by omega)
    omega
theorem cast_ten (n : Nat) : (((10 : Int) ^ n : Int) : Rat) = (10 : Rat) ^ n := by rw [Rat.intCast_pow]; rfl
theorem tenq_pos (n : Nat) : (0 : Rat) < 10 ^ n := Rat.pow_pos (by decide)
theorem ten_add (a b : Nat) : (10 : Rat) ^ (a + b) = 10 ^ a * 10 ^ b := rpow_add 10 a b
/-- a factor near one -/
theorem lg_near {q t e : Rat} (hq : 0 < q) (ht : 0 < t) (he : 0 ≤ e) (h1 : q ≤ t * (1 + e)) {r : Rat} (h : Lg r q) : Lg (r - e) t := by
  have b := (Ug.basic (q := 1 + e) (by grind)).inv (by grind)
  have k := Lg.add h b
  have hi : 0 < (1 + e)⁻¹ := Rat.inv_pos.mpr (by grind)
  refine k.mono (by grind) ?_
  have := Rat.mul_le_mul_of_nonneg_right h1 (Rat.le_of_lt hi)
  have e2 : t * (1 + e) * (1 + e)⁻¹ = t := by
    have : 1 + e ≠ 0 := by grind
    grind
  grind
theorem ug_near {q t e : Rat} (hq : 0 < q) (ht : 0 < t) (he : 0 ≤ e) (h1 : t ≤ q * (1 + e)) {r : Rat} (h : Ug r q) : Ug (r + e) t := by
  have b := Ug.basic (q := 1 + e) (by grind)
  have k := Ug.add (by grind) h b
  exact k.mono (by grind) h1
/-- the mantissa of _dlog -/
theorem dl_mant {n : Nat} {c D : Int} (hn : 3 ≤ n) (hc : 1 ≤ c) (hD : IsIlog n (dlC c ((n : Int) + 1 - nd c)) (10 ^ n) D) :
    Lg (((D : Rat) - 158 / 5) / 10 ^ n) ((c : Rat) / 10 ^ (nd c - 1)) ∧ Ug (((D : Rat) + 158 / 5) / 10 ^ n) ((c : Rat) / 10 ^ (nd c - 1)) := by
  have h1 := nd_pos c (by omega)
  obtain ⟨c1, c2⟩ := nd_lo hc
  have hMk : (1000 : Int) ≤ 10 ^ n := by
    obtain ⟨k, rfl⟩ : ∃ k, n = 3 + k := ⟨n - 3, by omega⟩
    rw [Int.pow_add]
    have : (0 : Int) < 10 ^ k := Int.pow_pos (by decide)
    have : (10 : Int) ^ 3 = 1000 := by decide
    omega
  have hm := cast_k hMk
  rw [cast_ten] at hm
  have hm0 : (0 : Rat) < 10 ^ n := by grind
  have hcq : (0 : Rat) < c := by exact_mod_cast (show 0 < c by omega)
  have hp1 := tenq_pos (nd c - 1)
  have hq : 0 < (c : Rat) / 10 ^ (nd c - 1) := rdiv_pos hcq hp1
  rcases Int.lt_or_le ((n : Int) + 1 - nd c) 0 with hK | hK
  · -- rounded
    rw [dlC_neg (by omega)] at hD
    obtain ⟨j, hj⟩ : ∃ j : Nat, nd c = n + 1 + j ∧ 0 < j := ⟨nd c - (n + 1), by omega, by omega⟩
    have ej : (-((n : Int) + 1 - nd c)).toNat = j := by omega
    rw [ej] at hD
    have hpj : (0 : Int) < 10 ^ j := Int.pow_pos (by decide)
    have e1 : (10 : Int) ^ (nd c - 1) = 10 ^ n * 10 ^ j := by rw [← Int.pow_add]; congr 1; omega
    have e2 : (10 : Int) ^ nd c = 10 * 10 ^ n * 10 ^ j := by rw [Int.mul_assoc, ← Int.pow_add, ← Int.pow_succ']; congr 1; omega
    have x1 : 10 ^ n ≤ divN c (10 ^ j) := le_divN hpj (by rw [← e1]; exact c1)
    have x2 : divN c (10 ^ j) ≤ 10 * 10 ^ n := divN_le hpj (by rw [← e2]; omega)
    obtain ⟨l, u⟩ := ilog_B hn rfl hMk x1 x2 hD
    rw [cast_ten] at l u
    have d := divN_rat c (b := 10 ^ j) hpj
    rw [cast_ten] at d
    have eq1 : (c : Rat) / 10 ^ (nd c - 1) = (c : Rat) / 10 ^ j / 10 ^ n := by
      rw [show nd c - 1 = n + j by omega, ten_add]
      have := tenq_pos j
      have a1 : (10 : Rat) ^ j ≠ 0 := by grind
      have a2 : (10 : Rat) ^ n ≠ 0 := by grind
      grind
    have x1q : (10 : Rat) ^ n ≤ ((divN c (10 ^ j) : Int) : Rat) := by
      have := Rat.intCast_le_intCast.mpr x1
      rwa [cast_ten] at this
    have hcj : (10 : Rat) ^ n ≤ (c : Rat) / 10 ^ j := by
      refine le_rdiv (tenq_pos j) ?_
      have := Rat.intCast_le_intCast.mpr c1
      rw [e1, Rat.intCast_mul, cast_ten, cast_ten] at this
      exact this
    rw [eq1]
    generalize ((divN c (10 ^ j) : Int) : Rat) = X at *
    generalize (c : Rat) / 10 ^ j = Y at *
    generalize (10 : Rat) ^ n = m at *
    have hX : 0 < X / m := rdiv_pos (by grind) hm0
    have hY : 0 < Y / m := rdiv_pos (by grind) hm0
    have i0 : 0 ≤ 3 / 5 / m := le_rdiv hm0 (by grind)
    have e3 : 3 / 5 / m * m = 3 / 5 := fld3 hm0
    constructor
    · refine (lg_near hX hY i0 ?_ l).mono ?_ Rat.le_refl
      · refine rdiv_le hm0 ?_
        have e5 : Y / m * (1 + 3 / 5 / m) * m = Y + Y * (3 / 5 / m) := by
          have : Y / m * m = Y := fld3 hm0
          grind
        rw [e5]
        have k1 := Rat.mul_nonneg (show 0 ≤ Y - m by grind) i0
        grind
      · have : (D - 158 / 5 : Rat) / m = (D - 31 : Rat) / m - 3 / 5 / m := by grind
        grind
    · refine (ug_near hX hY i0 ?_ u).mono ?_ Rat.le_refl
      · refine rdiv_le hm0 ?_
        have e5 : X / m * (1 + 3 / 5 / m) * m = X + X * (3 / 5 / m) := by
          have : X / m * m = X := fld3 hm0
          grind
        rw [e5]
        have k1 := Rat.mul_nonneg (show 0 ≤ X - m by grind) i0
        grind
      · have : (D + 158 / 5 : Rat) / m = (D + 31 : Rat) / m + 3 / 5 / m := by grind
        grind
  · rw [dlC_pos hK] at hD
    obtain ⟨j, hj⟩ : ∃ j : Nat, n + 1 = nd c + j := ⟨n + 1 - nd c, by omega⟩
    have ej : ((n : Int) + 1 - nd c).toNat = j := by omega
    rw [ej] at hD
    have hpj : (0 : Int) < 10 ^ j := Int.pow_pos (by decide)
    have e1 : (10 : Int) ^ n = 10 ^ (nd c - 1) * 10 ^ j := by rw [← Int.pow_add]; congr 1; omega
    have x1 : 10 ^ n ≤ c * 10 ^ j := by rw [e1]; exact Int.mul_le_mul_of_nonneg_right c1 (by omega)
    have x2 : c * 10 ^ j ≤ 10 * 10 ^ n := by
      have e2 : (10 : Int) * 10 ^ n = 10 ^ nd c * 10 ^ j := by rw [← Int.pow_succ', ← Int.pow_add]; congr 1
      rw [e2]
      exact Int.mul_le_mul_of_nonneg_right (by omega) (by omega)
    obtain ⟨l, u⟩ := ilog_B hn rfl hMk x1 x2 hD
    rw [cast_ten, Rat.intCast_mul, cast_ten] at l u
    have eq1 : (c : Rat) * 10 ^ j / 10 ^ n = (c : Rat) / 10 ^ (nd c - 1) := by
      rw [show n = (nd c - 1) + j by omega, ten_add]
      have := tenq_pos j
      have a1 : (10 : Rat) ^ j ≠ 0 := by grind
      have a2 : (10 : Rat) ^ (nd c - 1) ≠ 0 := by grind
      grind
    rw [eq1] at l u
    generalize (10 : Rat) ^ n = m at *
    constructor
    · refine l.mono (rdiv_le hm0 ?_) Rat.le_refl
      rw [fld3 hm0]; grind
    · refine u.mono (rdiv_le hm0 ?_) Rat.le_refl
      rw [fld3 hm0]; grind
/-- the power of ten, f from 0 on -/
theorem dl_ten {n f : Nat} (hx : n + (nd (f : Int) - 1) ≤ 46) :
    Lg (((dlT (f : Int) n : Int) - 1 / 2) / 10 ^ n) (10 ^ f) ∧ Ug (((dlT (f : Int) n : Int) + 21 / 2) / 10 ^ n) (10 ^ f) := by
  have hm0 := tenq_pos n
  rcases Nat.eq_zero_or_pos f with h | h
  · subst h
    rw [dlT, if_pos (by rfl), Rat.pow_zero]
    refine ⟨Lg.zero.mono (rdiv_le hm0 ?_) Rat.le_refl, Ug.zero.mono (le_rdiv hm0 ?_) Rat.le_refl⟩ <;> simp <;> grind
  · rw [dlT, if_neg (by omega), show (((f : Int).natAbs : Nat) : Int) = (f : Int) by omega]
    obtain ⟨f1, f2⟩ := nd_lo (c := (f : Int)) (by omega)
    have hnd := nd_pos (f : Int) (by omega)
    generalize hex : nd (f : Int) - 1 = ex at *
    have f3 : (f : Int) < 10 * 10 ^ ex := by
      rw [show nd (f : Int) = ex + 1 by omega, Int.pow_succ] at f2; omega
    have hpx : (0 : Int) < 10 ^ ex := Int.pow_pos (by decide)
    have d := divN_rat ((f : Int) * l10 (n + ex)) (b := 10 ^ ex) hpx
    rw [cast_ten, Rat.intCast_mul, Rat.intCast_natCast] at d
    have a := Lg.pow (l10_lg hx) f
    have b := Ug.pow (by grind) (l10_ug hx) f
    have hxq := tenq_pos ex
    have f3q : (f : Rat) ≤ 10 * 10 ^ ex := by
      have := Rat.intCast_le_intCast.mpr (Int.le_of_lt f3)
      rw [Rat.intCast_natCast, Rat.intCast_mul, cast_ten] at this
      exact this
    rw [ten_add] at a b
    generalize ((divN ((f : Int) * l10 (n + ex)) (10 ^ ex) : Int) : Rat) = T at *
    generalize ((l10 (n + ex) : Int) : Rat) = l at *
    generalize (f : Rat) = F at *
    generalize (10 : Rat) ^ ex = P at *
    generalize (10 : Rat) ^ n = m at *
    have hP0 : P ≠ 0 := by grind
    have hm1 : m ≠ 0 := by grind
    have e1 : F * (l / (m * P)) = F * l / P / m := by grind
    have e2 : F * ((l + 1) / (m * P)) = (F * l / P + F / P) / m := by grind
    have e3 : F / P ≤ 10 := rdiv_le hxq f3q
    rw [e1] at a
    rw [e2] at b
    constructor
    · refine a.mono (rdiv_le hm0 ?_) Rat.le_refl
      rw [fld3 hm0]; grind
    · refine b.mono (rdiv_le hm0 ?_) Rat.le_refl
      rw [fld3 hm0]; grind
/-- _dlog, from one on: the answer within 93 hundredths of a unit of the last place -/
theorem dl_gen {n f : Nat} {c e r : Int} (hn : 3 ≤ n) (hc : 1 ≤ c) (hf : e + nd c - 1 = (f : Int)) (hx : n + (nd (f : Int) - 1) ≤ 46) (h : IsDlog n c e r) :
    Lg ((100 * (r : Rat) - 93) / 10 ^ n) ((c : Rat) / 10 ^ (nd c - 1) * 10 ^ f) ∧ Ug ((100 * (r : Rat) + 93) / 10 ^ n) ((c : Rat) / 10 ^ (nd c - 1) * 10 ^ f) := by
  obtain ⟨D, hD, rfl⟩ := h
  have hF : dlF c e = (f : Int) := by
    unfold dlF
    rw [if_pos (by simp; omega)]; omega
  rw [hF] at hD ⊢
  rw [show e + (n : Int) - (f : Int) = (n : Int) + 1 - nd c by omega] at hD
  obtain ⟨a, b⟩ := dl_mant hn hc hD
  obtain ⟨a', b'⟩ := dl_ten (n := n) hx
  have l := Lg.add a a'
  have u := Ug.add (tenq_pos f) b b'
  have d := divN_rat (dlT (f : Int) n + D) (b := 100) (by decide)
  rw [Rat.intCast_add, show (((100 : Int)) : Rat) = 100 from rfl] at d
  have hm0 := tenq_pos n
  generalize ((divN (dlT (f : Int) n + D) 100 : Int) : Rat) = r at *
  generalize ((dlT (f : Int) n : Int) : Rat) = T at *
  generalize (D : Rat) = D at *
  generalize (10 : Rat) ^ n = m at *
  have e1 : (D - 158 / 5) / m + (T - 1 / 2) / m = (D - 158 / 5 + (T - 1 / 2)) / m := by grind
  have e2 : (D + 158 / 5) / m + (T + 21 / 2) / m = (D + 158 / 5 + (T + 21 / 2)) / m := by grind
  rw [e1] at l
  rw [e2] at u
  constructor
  · refine l.mono (rdiv_le hm0 ?_) Rat.le_refl
    rw [fld3 hm0]; grind
  · refine u.mono (rdiv_le hm0 ?_) Rat.le_refl
    rw [fld3 hm0]; grind
end Mine

end
section
namespace Mine
/-- exp of a rest that is near the logarithm of v -/
theorem isl_core {N v x E T w e : Rat} (hN : 0 < N) (hv : 0 < v) (he : 0 ≤ e) (hw : 0 < w) (hw2 : w + e < N * v) (hT : T * (N * v + w) < w * N)
    (el : Lg (x / N) ((E + e) / N)) (eu : Ug (x / N) ((E - e) / N)) (vl : Lg ((x - T) / N) v) (vu : Ug ((x + T) / N) v) :
    N * v - (w + e) < E ∧ E < N * v + (w + e) := by
  have hNv : 0 < N * v := Rat.mul_pos hN hv
  constructor
  · rcases rlt_or_le (N * v - (w + e)) E with g | g
    · exact g
    · exfalso
      have h1 : (E + e) / N ≤ v * (1 - w / (N * v)) := by
        refine rdiv_le hN ?_
        have e0 : v * (1 - w / (N * v)) * N = N * v - w := by
          have a1 : N ≠ 0 := by grind
          have a2 : v ≠ 0 := by grind
          grind
        rw [e0]; grind
      have l := el.mono Rat.le_refl h1
      have hlt : w / (N * v) < 1 := by
        rcases rlt_or_le (w / (N * v)) 1 with g2 | g2
        · exact g2
        · have := Rat.mul_le_mul_of_nonneg_right g2 (Rat.le_of_lt hNv)
          rw [fld3 hNv] at this
          grind
      have u := Ug.add (by grind) vu (Ug.basic (q := 1 - w / (N * v)) (by grind))
      have k := l.le u
      have k2 : w / (N * v) ≤ T / N := by
        have : (x + T) / N = x / N + T / N := by grind
        grind
      have k3 := Rat.mul_le_mul_of_nonneg_right k2 (show 0 ≤ N * v * N from Rat.mul_nonneg (Rat.le_of_lt hNv) (Rat.le_of_lt hN))
      have e3 : w / (N * v) * (N * v * N) = w * N := by
        have a1 : N ≠ 0 := by grind
        have a2 : v ≠ 0 := by grind
        grind
      have e4 : T / N * (N * v * N) = T * (N * v) := by
        have a1 : N ≠ 0 := by grind
        grind
      rw [e3, e4] at k3
      have k4 : 0 < T := by
        rcases rlt_or_le 0 T with g3 | g3
        · exact g3
        · have a := Rat.mul_pos hw hN
          have b := Rat.mul_nonneg (show 0 ≤ -T by grind) (Rat.le_of_lt hNv)
          grind
      have k5 := Rat.mul_pos k4 hw
      grind
  · rcases rlt_or_le E (N * v + (w + e)) with g | g
    · exact g
    · exfalso
      have h1 : v * (1 + w / (N * v)) ≤ (E - e) / N := by
        refine le_rdiv hN ?_
        have e0 : v * (1 + w / (N * v)) * N = N * v + w := by
          have a1 : N ≠ 0 := by grind
          have a2 : v ≠ 0 := by grind
          grind
        rw [e0]; grind
      have u := eu.mono Rat.le_refl h1
      have hwv : 0 < w / (N * v) := rdiv_pos hw hNv
      have b := Lg.basic (t := 1 / (1 + w / (N * v))) (q := 1 + w / (N * v)) (rdiv_pos (by grind) (by grind)) (by
        have : 1 / (1 + w / (N * v)) * (1 + w / (N * v)) = 1 := fld3 (by grind)
        grind)
      have l := Lg.add vl b
      have k := l.le u
      have e1 : 1 - 1 / (1 + w / (N * v)) = w / (N * v + w) := by
        have h2 : N * v ≠ 0 := by grind
        have h3 : N * v + w ≠ 0 := by grind
        have h4 : 1 + w / (N * v) = (N * v + w) / (N * v) := by grind
        rw [h4]; grind
      rw [e1] at k
      have k2 : w / (N * v + w) ≤ T / N := by
        have : (x - T) / N = x / N - T / N := by grind
        grind
      have hz : 0 < N * v + w := by grind
      have k3 := Rat.mul_le_mul_of_nonneg_right k2 (show 0 ≤ (N * v + w) * N from Rat.mul_nonneg (Rat.le_of_lt hz) (Rat.le_of_lt hN))
      have e3 : w / (N * v + w) * ((N * v + w) * N) = w * N := by
        have a1 : N * v + w ≠ 0 := by grind
        generalize N * v + w = z at *
        grind
      have e4 : T / N * ((N * v + w) * N) = T * (N * v + w) := by
        have a1 : N ≠ 0 := by grind
        generalize N * v + w = z at *
        grind
      rw [e3, e4] at k3
      grind
/-- an int near a thousandfold -/
theorem div1000 {E Z : Int} (h1 : 1000 * Z - 500 < E) (h2 : E < 1000 * Z + 500) : divN E 1000 = Z := by
  have b := divN_bounds E (b := 1000) (by decide)
  omega
/-- cshift -/
theorem dxC_rat {n : Nat} {c : Int} {P : Nat} : ((dxC n c (-(P : Int)) : Int) : Rat) ≤ (c : Rat) * 10 ^ (n + dxE c (-(P : Int))) / 10 ^ P ∧ (c : Rat) * 10 ^ (n + dxE c (-(P : Int))) / 10 ^ P < ((dxC n c (-(P : Int)) : Int) : Rat) + 1 := by
  unfold dxC
  generalize dxE c (-(P : Int)) = ex
  have hP := tenq_pos P
  split
  · rename_i h
    obtain ⟨j, hj⟩ : ∃ j : Nat, n + ex = P + j := ⟨n + ex - P, by omega⟩
    rw [show (-(P : Int) + ((n + ex : Nat) : Int)).toNat = j by omega, hj, ten_add, Rat.intCast_mul, cast_ten]
    have e : (c : Rat) * (10 ^ P * 10 ^ j) / 10 ^ P = c * 10 ^ j := by
      have : (10 : Rat) ^ P ≠ 0 := by grind
      grind
    rw [e]
    constructor <;> grind
  · rename_i h
    obtain ⟨j, hj⟩ : ∃ j : Nat, P = n + ex + j := ⟨P - (n + ex), by omega⟩
    rw [show (-(-(P : Int) + ((n + ex : Nat) : Int))).toNat = j by omega]
    have hpj : (0 : Int) < 10 ^ j := Int.pow_pos (by decide)
    have hjq := tenq_pos j
    have hnq := tenq_pos (n + ex)
    have e : (c : Rat) * 10 ^ (n + ex) / 10 ^ P = c / 10 ^ j := by
      rw [hj, ten_add]
      have : (10 : Rat) ^ (n + ex) ≠ 0 := by grind
      have : (10 : Rat) ^ j ≠ 0 := by grind
      grind
    rw [e]
    have f1 := (fl_rat c hpj).1
    rw [cast_ten] at f1
    have e1 := Int.mul_ediv_add_emod c (10 ^ j)
    have e2 := Int.emod_lt_of_pos c hpj
    have h2 : c < (c / 10 ^ j + 1) * 10 ^ j := by
      have : (c / 10 ^ j + 1) * 10 ^ j = 10 ^ j * (c / 10 ^ j) + 10 ^ j := by rw [Int.add_mul, Int.mul_comm, Int.one_mul]
      omega
    have h3 := Rat.intCast_lt_intCast.mpr h2
    rw [Rat.intCast_mul, Rat.intCast_add, cast_ten, show (((1 : Int)) : Rat) = 1 from rfl] at h3
    refine ⟨f1, ?_⟩
    rcases rlt_or_le ((c : Rat) / 10 ^ j) (((c / 10 ^ j : Int) : Rat) + 1) with g | g
    · exact g
    · exfalso
      have := Rat.mul_le_mul_of_nonneg_right g (Rat.le_of_lt hjq)
      rw [fld3 hjq] at this
      grind
end Mine

end
section
namespace Mine
theorem l10_lo {q : Nat} (h : q ≤ 46) (h3 : 3 ≤ q) : 2302 * 10 ^ q ≤ 1000 * l10 q := by
  rcases l10_pos0 ⟨q, by omega⟩ with h | h
  · have := h.2.1
    simp only at this
    omega
  · have := h.1
    simp only at this
    omega
section
variable {size G : Int} {P s n ex : Nat} {B g b L C : Rat}
/-- the quotient's bounds, in the rationals -/
theorem isl_quot_hi {k : Nat} {v : Rat} (hs : s ≤ 36) (hv : v ≤ 10 ^ s - 1) (hv0 : 0 < v) (hk : s ≤ k) (hC : k * L ≤ C) (hL0 : 0 ≤ L) (hCg : C / 10 ^ (s + 2 + ex) ≤ g) (hb : b * 10 ^ s ≤ 38 / 100)
    (lu : Ug ((L + 1) / 10 ^ (s + 2 + ex)) 10) (gl : Lg (g - b) v) : False := by
  have hq := tenq_pos (s + 2 + ex)
  have hsq := tenq_pos s
  have hxq := tenq_pos ex
  have hx1 : (1 : Rat) ≤ 10 ^ ex := by
    have : ∀ e : Nat, (1 : Rat) ≤ 10 ^ e := by
      intro e
      induction e with
      | zero => rw [Rat.pow_zero]; grind
      | succ e ih => rw [Rat.pow_succ]; grind
    exact this ex
  have h10 : (1 : Rat) ≤ 10 ^ s := by grind
  have hi : 1 / (10 : Rat) ^ s * 10 ^ s = 1 := fld3 hsq
  have hi1 : 1 / (10 : Rat) ^ s < 1 := by
    rcases rlt_or_le (1 / (10 : Rat) ^ s) 1 with h | h
    · exact h
    · have := Rat.mul_le_mul_of_nonneg_right h (Rat.le_of_lt hsq)
      grind
  have u := Ug.add (show 0 < 1 - 1 / (10 : Rat) ^ s by grind) (Ug.pow (by grind) lu s) (Ug.basic (q := 1 - 1 / (10 : Rat) ^ s) (by grind))
  have u2 := u.mono Rat.le_refl (show v ≤ 10 ^ s * (1 - 1 / 10 ^ s) by grind)
  have k1 := gl.le u2
  have hkq : (s : Rat) ≤ k := by exact_mod_cast hk
  have hCs : s * L ≤ C := by
    have := Rat.mul_nonneg (show (0 : Rat) ≤ k - s by grind) hL0
    grind
  have h1 : s * L / 10 ^ (s + 2 + ex) ≤ C / 10 ^ (s + 2 + ex) := by
    refine rdiv_le hq ?_
    rw [fld3 hq]; exact hCs
  have e1 : (s : Rat) * ((L + 1) / 10 ^ (s + 2 + ex)) = s * L / 10 ^ (s + 2 + ex) + s / 10 ^ (s + 2 + ex) := by grind
  have k2 : 1 / (10 : Rat) ^ s ≤ s / 10 ^ (s + 2 + ex) + b := by grind
  have k3 := Rat.mul_le_mul_of_nonneg_right k2 (Rat.le_of_lt hsq)
  have e2 : (10 : Rat) ^ (s + 2 + ex) = 10 ^ s * (100 * 10 ^ ex) := by rw [ten_add, ten_add, show (10 : Rat) ^ 2 = 100 by decide +kernel]; grind
  have e3 : (s : Rat) / 10 ^ (s + 2 + ex) * 10 ^ s = s / (100 * 10 ^ ex) := by
    rw [e2]
    have a1 : (10 : Rat) ^ s ≠ 0 := by grind
    have a2 : (10 : Rat) ^ ex ≠ 0 := by grind
    grind
  have hs36 : (s : Rat) ≤ 36 := by
    have : ((s : Nat) : Rat) ≤ ((36 : Nat) : Rat) := by exact_mod_cast hs
    exact this
  have k4 : (s : Rat) / (100 * 10 ^ ex) ≤ 36 / 100 := rdiv_le (by grind) (by grind)
  rw [hi, Rat.add_mul, e3] at k3
  grind
end
/-- v = size / 10^quot is near the rest, quot from 0 on -/
theorem isl_v1 {v g b L C q r w : Rat} {k : Nat} (hq : 0 < q) (hC : C = k * L + r) (h1 : C / q ≤ g) (h2 : g < (C + 1) / q) (hw : (k : Rat) ≤ w) (hw1 : 1 ≤ w)
    (ll : Lg (L / q) 10) (lu : Ug ((L + 1) / q) 10) (gl : Lg (g - b) v) (gu : Ug (g + b) v) :
    Lg ((r - w) / q - b) (v * (10 ^ k)⁻¹) ∧ Ug ((r + w) / q + b) (v * (10 ^ k)⁻¹) := by
  have hk := tenq_pos k
  have hi : 0 < ((10 : Rat) ^ k)⁻¹ := Rat.inv_pos.mpr hk
  have a := (Ug.pow (by grind) lu k).inv hk
  have c := (Lg.pow ll k).inv hk
  have l := Lg.add gl a
  have u := Ug.add hi gu c
  subst hC
  have e1 : (k * L + r) / q = k * (L / q) + r / q := by grind
  have e2 : (k * L + r + 1) / q = k * (L / q) + r / q + 1 / q := by grind
  have e3 : (k : Rat) * ((L + 1) / q) = k * (L / q) + k / q := by grind
  have e4 : (r - w) / q = r / q - w / q := by grind
  have e5 : (r + w) / q = r / q + w / q := by grind
  have k1 : (k : Rat) / q ≤ w / q := by refine rdiv_le hq ?_; rw [fld3 hq]; exact hw
  have k2 : 1 / q ≤ w / q := by refine rdiv_le hq ?_; rw [fld3 hq]; exact hw1
  rw [e1] at h1
  rw [e2] at h2
  rw [e3] at l
  rw [e4, e5]
  exact ⟨l.mono (by grind) Rat.le_refl, u.mono (by grind) Rat.le_refl⟩
theorem isl_v2 {v g b L C q r w : Rat} (hq : 0 < q) (hC : C = -L + r) (h1 : C / q ≤ g) (h2 : g < (C + 1) / q) (hw1 : 2 ≤ w)
    (ll : Lg (L / q) 10) (lu : Ug ((L + 1) / q) 10) (gl : Lg (g - b) v) (gu : Ug (g + b) v) :
    Lg ((r - w) / q - b) (v * 10) ∧ Ug ((r + w) / q + b) (v * 10) := by
  have l := Lg.add gl ll
  have u := Ug.add (by grind) gu lu
  subst hC
  have e1 : (-L + r) / q = r / q - L / q := by grind
  have e2 : (-L + r + 1) / q = r / q - L / q + 1 / q := by grind
  have e3 : (L + 1) / q = L / q + 1 / q := by grind
  have e4 : (r - w) / q = r / q - w / q := by grind
  have e5 : (r + w) / q = r / q + w / q := by grind
  have k1 : 2 * (1 / q) ≤ w / q := by
    have : 2 * (1 / q) = 2 / q := by grind
    rw [this]
    refine rdiv_le hq ?_; rw [fld3 hq]; exact hw1
  have k2 : 0 ≤ w / q := le_rdiv hq (by grind)
  rw [e1] at h1
  rw [e2] at h2
  rw [e3] at u
  rw [e4, e5]
  exact ⟨l.mono (by grind) Rat.le_refl, u.mono (by grind) Rat.le_refl⟩
/-- the rest in units of the last place; v below 10.45; the end -/
theorem isl_end {v b L q r w N X x E W : Rat} (hN : 1000 ≤ N) (hX : 0 < X) (hq : q = N * X) (hw : w ≤ W * X) (hb : b * N ≤ 38) (hr : r ≤ L) (hx1 : -(1 / 2) ≤ x - r / X) (hx2 : x - r / X ≤ 1 / 2)
    (hW : W = 2 ∨ W = 4 ∧ 10000 ≤ N) (hv : 1 ≤ v) (ll : Lg (L / q) 10) (vl : Lg ((r - w) / q - b) v) (vu : Ug ((r + w) / q + b) v)
    (el : Lg (x / N) ((E + eh 0) / N)) (eu : Ug (x / N) ((E - eh 0) / N)) : N * v - 500 < E ∧ E < N * v + 500 := by
  have hN0 : 0 < N := by grind
  have hq0 : 0 < q := by rw [hq]; exact Rat.mul_pos hN0 hX
  have e1 : ∀ z : Rat, z / q = z / X / N := by
    intro z
    rw [hq]
    have a1 : N ≠ 0 := by grind
    have a2 : X ≠ 0 := by grind
    grind
  have w1 : w / X ≤ W := rdiv_le hX hw
  have b1 : b ≤ 38 / N := le_rdiv hN0 hb
  have e2 : (r - w) / q - b = (r / X - w / X) / N - b := by rw [e1]; grind
  have e3 : (r + w) / q + b = (r / X + w / X) / N + b := by rw [e1]; grind
  rw [e2] at vl
  rw [e3] at vu
  have W2 : W ≤ 4 := by rcases hW with h | h <;> grind
  have vl' : Lg ((x - (W + 77 / 2)) / N) v := by
    refine vl.mono ?_ Rat.le_refl
    have : (x - (W + 77 / 2)) / N ≤ (r / X - w / X) / N - 38 / N := by
      refine rdiv_le hN0 ?_
      have : ((r / X - w / X) / N - 38 / N) * N = r / X - w / X - 38 := by
        have a1 : N ≠ 0 := by grind
        generalize r / X = p at *
        generalize w / X = p' at *
        grind
      rw [this]
      clear e1
      generalize r / X = p at *
      generalize w / X = p' at *
      grind
    clear e1
    grind
  have vu' : Ug ((x + (W + 77 / 2)) / N) v := by
    refine vu.mono ?_ Rat.le_refl
    have : (r / X + w / X) / N + 38 / N ≤ (x + (W + 77 / 2)) / N := by
      refine le_rdiv hN0 ?_
      have : ((r / X + w / X) / N + 38 / N) * N = r / X + w / X + 38 := by
        have a1 : N ≠ 0 := by grind
        generalize r / X = p at *
        generalize w / X = p' at *
        grind
      rw [this]
      clear e1
      generalize r / X = p at *
      generalize w / X = p' at *
      grind
    clear e1
    grind
  -- v is below 10.45
  have hv2 : v ≤ 1045 / 100 := by
    rcases rlt_or_le (1045 / 100) v with g | g
    · exfalso
      have b2 := Lg.basic (t := 1000 / 1045) (q := 1045 / 1000) (by grind) (by grind)
      have l2 := (Lg.add ll b2).mono Rat.le_refl (show 10 * (1045 / 1000) ≤ v by grind)
      have k := l2.le vu
      have k1 : (r / X + w / X) / N + b ≤ L / q + 42 / N := by
        rw [e1 L]
        have r1 : r / X ≤ L / X := by
          refine rdiv_le hX ?_
          rw [fld3 hX]; exact hr
        have : (r / X + w / X) / N ≤ (L / X + 4) / N := by
          refine rdiv_le hN0 ?_
          rw [fld3 hN0]
          clear e1
          generalize r / X = p at *
          generalize w / X = p' at *
          generalize L / X = p'' at *
          grind
        have e5 : (L / X + 4) / N = L / X / N + 4 / N := by grind
        have e6 : 42 / N = 4 / N + 38 / N := by grind
        clear e1
        grind
      have k2 : 42 / N ≤ 42 / 1000 := rdiv_le hN0 (by grind)
      clear e1
      grind
    · exact g
  have e0 : eh 0 = 223167 / 5000 := rfl
  rw [e0] at el eu
  have c := isl_core (w := 2276833 / 5000) (e := 223167 / 5000) (T := W + 77 / 2) hN0 (by grind) (by grind) (by grind) (by
      have := Rat.mul_nonneg (Rat.le_of_lt hN0) (show 0 ≤ v - 1 by grind)
      clear e1
      grind) (by
      have k1 := Rat.mul_nonneg (Rat.le_of_lt hN0) (show 0 ≤ 1045 / 100 - v by grind)
      clear e1 vl vu vl' vu' el eu ll
      rcases hW with h | ⟨h, h4⟩
      · subst h; grind
      · subst h; grind) el eu vl' vu'
  clear e1
  constructor <;> grind
end Mine

end
section
namespace Mine
theorem ten_k' (k : Nat) : (0 : Int) < 10 ^ k := Int.pow_pos (by decide)
end Mine
namespace Mine
theorem islog {size G d f : Int} {P : Nat} {B : Rat} (hs : 1 ≤ size) (hs36 : nd size ≤ 36) (hB0 : 0 ≤ B) (hB : B * 10 ^ nd size * 100 ≤ 38 * 10 ^ P) (hq : nd size + 2 + dxE G (-(P : Int)) ≤ 46)
    (gl : Lg (((G : Rat) - B) / 10 ^ P) size) (gu : Ug (((G : Rat) + B) / 10 ^ P) size) (h : IsDexp (nd size + 2) G (-(P : Int)) d f) : f ≤ 0 ∧ -100 ≤ f ∧ d = size * 10 ^ (-f).toNat := by
  obtain ⟨E, hE, hd, hf⟩ := h
  obtain ⟨s1, s2⟩ := nd_lo hs
  have hnd := nd_pos size (by omega)
  have hC := dxC_rat (n := nd size + 2) (c := G) (P := P)
  have hrok := dxr_ok (n := nd size + 2) (c := G) (e := -(P : Int)) (by omega) hq
  have hlp := l10_pos _ hq
  have hll := l10_lg hq
  have hlu := l10_ug hq
  have hl1 := l10_lo hq (by omega)
  have hxd : dxE G (-(P : Int)) = (-(P : Int) + nd G - 1).toNat := rfl
  have hR : dxR (nd size + 2) G (-(P : Int)) = divN (dxC (nd size + 2) G (-(P : Int)) % l10 (nd size + 2 + dxE G (-(P : Int)))) (10 ^ dxE G (-(P : Int))) := rfl
  rw [hR] at hE hrok
  have hdiv := Int.mul_ediv_add_emod (dxC (nd size + 2) G (-(P : Int))) (l10 (nd size + 2 + dxE G (-(P : Int))))
  have r0 := Int.emod_nonneg (dxC (nd size + 2) G (-(P : Int))) (b := l10 (nd size + 2 + dxE G (-(P : Int)))) (by omega)
  have r1 := Int.emod_lt_of_pos (dxC (nd size + 2) G (-(P : Int))) hlp
  have hMk : (1000 : Int) ≤ 10 ^ (nd size + 2) := by
    obtain ⟨k, hk⟩ : ∃ k, nd size + 2 = 3 + k := ⟨nd size - 1, by omega⟩
    rw [hk, Int.pow_add]
    have : (0 : Int) < 10 ^ k := Int.pow_pos (by decide)
    have : (10 : Int) ^ 3 = 1000 := by decide
    omega
  generalize hexd : dxE G (-(P : Int)) = ex at *
  generalize hCC : dxC (nd size + 2) G (-(P : Int)) = C at *
  generalize hLL : l10 (nd size + 2 + ex) = L at *
  generalize hqq : C / L = quot at *
  generalize hrr : C % L = rem at *
  have hpx : (0 : Int) < 10 ^ ex := Int.pow_pos (by decide)
  have dr := divN_rat rem (b := 10 ^ ex) hpx
  rw [cast_ten] at dr
  obtain ⟨_, _, el, eu⟩ := ie_final (by omega) rfl hMk hrok.1 hrok.2 hE
  rw [cast_ten] at el eu
  -- the rationals
  have hPq := tenq_pos P
  have hqq0 := tenq_pos (nd size + 2 + ex)
  have hsq := tenq_pos (nd size)
  have hxq := tenq_pos ex
  have hnq := tenq_pos (nd size + 2)
  have e100 : (10 : Rat) ^ (nd size + 2) = 10 ^ nd size * 100 := by rw [ten_add, show (10 : Rat) ^ 2 = 100 by decide +kernel]
  have eqx : (10 : Rat) ^ (nd size + 2 + ex) = 10 ^ (nd size + 2) * 10 ^ ex := ten_add _ _
  have hNk : (1000 : Rat) ≤ 10 ^ (nd size + 2) := by
    have := cast_k hMk
    rwa [cast_ten] at this
  have hx1 : (1 : Rat) ≤ 10 ^ ex := by
    have := Rat.intCast_le_intCast.mpr (show (1 : Int) ≤ 10 ^ ex by omega)
    rwa [cast_ten] at this
  -- g = G / 10^P, b = B / 10^P
  have hg1 : ((C : Int) : Rat) / 10 ^ (nd size + 2 + ex) ≤ (G : Rat) / 10 ^ P := by
    refine rdiv_le hqq0 ?_
    have : (G : Rat) / 10 ^ P * 10 ^ (nd size + 2 + ex) = (G : Rat) * 10 ^ (nd size + 2 + ex) / 10 ^ P := by grind
    rw [this]; exact hC.1
  have hg2 : (G : Rat) / 10 ^ P < (((C : Int) : Rat) + 1) / 10 ^ (nd size + 2 + ex) := by
    have h5 := hC.2
    have e5 : (G : Rat) / 10 ^ P * 10 ^ (nd size + 2 + ex) = (G : Rat) * 10 ^ (nd size + 2 + ex) / 10 ^ P := by grind
    rw [← e5] at h5
    rcases rlt_or_le ((G : Rat) / 10 ^ P) ((((C : Int) : Rat) + 1) / 10 ^ (nd size + 2 + ex)) with g | g
    · exact g
    · exfalso
      have := Rat.mul_le_mul_of_nonneg_right g (Rat.le_of_lt hqq0)
      rw [fld3 hqq0] at this
      grind
  have hbs : B / 10 ^ P * 10 ^ nd size ≤ 38 / 100 := by
    have : B / 10 ^ P * 10 ^ nd size = B * 10 ^ nd size / 10 ^ P := by grind
    rw [this]
    exact rdiv_le hPq (by grind)
  have hb0 : 0 ≤ B / 10 ^ P := le_rdiv hPq (by grind)
  have egl : ((G : Rat) - B) / 10 ^ P = (G : Rat) / 10 ^ P - B / 10 ^ P := by grind
  have egu : ((G : Rat) + B) / 10 ^ P = (G : Rat) / 10 ^ P + B / 10 ^ P := by grind
  rw [egl] at gl
  rw [egu] at gu
  have hbN : B / 10 ^ P * 10 ^ (nd size + 2) ≤ 38 := by rw [e100]; grind
  have hsz0 : (0 : Rat) < size := by exact_mod_cast (show 0 < size by omega)
  have hLq : (0 : Rat) < (L : Int) := by exact_mod_cast hlp
  have hdq : ((C : Int) : Rat) = (quot : Rat) * L + rem := by
    have : C = quot * L + rem := by rw [Int.mul_comm quot L]; omega
    rw [this, Rat.intCast_add, Rat.intCast_mul]
  have rq : ((rem : Int) : Rat) ≤ L := by exact_mod_cast (show rem ≤ L by omega)
  -- quot < nd size
  have hqh : quot < nd size := by
    rcases Int.lt_or_le quot (nd size) with g | g
    · exact g
    · exfalso
      obtain ⟨k, hk⟩ : ∃ k : Nat, quot = (k : Int) := ⟨quot.toNat, by omega⟩
      have hkL : ((k : Nat) : Rat) * L ≤ C := by
        rw [hdq, hk, Rat.intCast_natCast]
        have : (0 : Rat) ≤ rem := by exact_mod_cast r0
        grind
      have hv : (size : Rat) ≤ 10 ^ nd size - 1 := by
        have := Rat.intCast_le_intCast.mpr (show size ≤ 10 ^ nd size - 1 by omega)
        rwa [Rat.intCast_sub, cast_ten] at this
      exact isl_quot_hi (k := k) hs36 hv hsz0 (by omega) hkL (Rat.le_of_lt hLq) hg1 hbs hlu gl
  -- -1 ≤ quot
  have hql : -1 ≤ quot := by
    rw [← hqq]
    refine (Int.le_ediv_iff_mul_le hlp).mpr ?_
    have a := (Lg.zero.mono Rat.le_refl (show (1 : Rat) ≤ size by exact_mod_cast hs)).le gu
    have k1 : -(38 * 10 ^ ex) ≤ (((C : Int) : Rat) + 1) := by
      have k2 := Rat.mul_le_mul_of_nonneg_right (show -(B / 10 ^ P) ≤ (((C : Int) : Rat) + 1) / 10 ^ (nd size + 2 + ex) by grind) (Rat.le_of_lt hqq0)
      rw [fld3 hqq0] at k2
      have k3 := Rat.mul_nonneg (show 0 ≤ 38 - B / 10 ^ P * 10 ^ (nd size + 2) by grind) (Rat.le_of_lt hxq)
      rw [eqx] at k2
      grind
    have k4 : -(38 * 10 ^ ex) ≤ C + 1 := by
      have : ((-(38 * 10 ^ ex) : Int) : Rat) ≤ ((C + 1 : Int) : Rat) := by
        rw [Rat.intCast_neg, Rat.intCast_mul, cast_ten, Rat.intCast_add]
        exact k1
      exact Rat.intCast_le_intCast.mp this
    have k5 : 2302 * 10 ^ ex ≤ L := by
      rw [Int.pow_add] at hl1
      have := Int.mul_le_mul_of_nonneg_right hMk (Int.le_of_lt hpx)
      omega
    omega
  -- quot is small beside 10^ex
  have hq4 : (quot : Rat) ≤ 4 * 10 ^ ex := by
    rcases Nat.eq_zero_or_pos ex with h0 | h0
    · have hGP : G < 10 * 10 ^ P := by
        rcases Int.lt_or_le G 1 with hG | hG
        · have := ten_k' P
          omega
        · have hG2 := (nd_lo hG).2
          have : nd G ≤ P + 1 := by omega
          have e9 : (10 : Int) ^ nd G ≤ 10 ^ (P + 1) := by
            obtain ⟨j, hj⟩ := Nat.le.dest this
            rw [← hj, Int.pow_add]
            have p1 := ten_k' (nd G)
            have p2 := ten_k' j
            have := Int.mul_le_mul_of_nonneg_left (show (1 : Int) ≤ 10 ^ j by omega) (Int.le_of_lt p1)
            omega
          rw [Int.pow_succ] at e9
          omega
      have hg10 : (G : Rat) / 10 ^ P ≤ 10 := by
        refine rdiv_le hPq ?_
        have := Rat.intCast_le_intCast.mpr (Int.le_of_lt hGP)
        rwa [Rat.intCast_mul, cast_ten] at this
      have hq5 : quot ≤ 4 := by
        rcases Int.lt_or_le 4 quot with g | g
        · exfalso
          have c5 : 5 * L ≤ C := by
            have : 5 * L ≤ quot * L := Int.mul_le_mul_of_nonneg_right (by omega) (by omega)
            have e9 : quot * L = L * quot := Int.mul_comm _ _
            omega
          have c6 : 10 * 10 ^ (nd size + 2 + ex) < C := by
            have := ten_k' (nd size + 2 + ex)
            omega
          have c7 := Rat.intCast_lt_intCast.mpr c6
          rw [Rat.intCast_mul, cast_ten] at c7
          have c8 := Rat.mul_le_mul_of_nonneg_right (show ((C : Int) : Rat) / 10 ^ (nd size + 2 + ex) ≤ 10 by grind) (Rat.le_of_lt hqq0)
          rw [fld3 hqq0] at c8
          have e10 : (((10 : Int)) : Rat) = 10 := rfl
          grind
        · exact g
      have := Rat.intCast_le_intCast.mpr hq5
      rw [show (((4 : Int)) : Rat) = 4 from rfl] at this
      grind
    · have h5 : quot ≤ 36 := by omega
      have := Rat.intCast_le_intCast.mpr h5
      rw [show (((36 : Int)) : Rat) = 36 from rfl] at this
      have h10 : (10 : Rat) ≤ 10 ^ ex := by
        obtain ⟨j, rfl⟩ : ∃ j, ex = j + 1 := ⟨ex - 1, by omega⟩
        have := tenq_pos j
        have hj1 : (1 : Rat) ≤ 10 ^ j := by
          have := Rat.intCast_le_intCast.mpr (show (1 : Int) ≤ 10 ^ j by have := ten_k' j; omega)
          rwa [cast_ten] at this
        rw [Rat.pow_succ]; grind
      grind
  have hfe : f = quot - nd size + 1 := by omega
  refine ⟨by omega, by omega, ?_⟩
  -- v
  have hsz1 : (10 : Rat) ^ (nd size - 1) ≤ size := by
    have := Rat.intCast_le_intCast.mpr s1
    rwa [cast_ten] at this
  have W : ∃ W : Rat, (W = 2 ∨ W = 4 ∧ (10000 : Rat) ≤ 10 ^ (nd size + 2)) ∧ (quot : Rat) ≤ W * 10 ^ ex ∧ 2 ≤ W := by
    rcases Nat.lt_or_ge (nd size) 2 with g | g
    · refine ⟨2, Or.inl rfl, ?_, by grind⟩
      have : quot ≤ 0 := by omega
      have := Rat.intCast_le_intCast.mpr this
      rw [show (((0 : Int)) : Rat) = 0 from rfl] at this
      grind
    · refine ⟨4, Or.inr ⟨rfl, ?_⟩, hq4, by grind⟩
      obtain ⟨j, hj⟩ : ∃ j, nd size + 2 = 4 + j := ⟨nd size - 2, by omega⟩
      rw [hj, ten_add, show (10 : Rat) ^ 4 = 10000 by decide +kernel]
      have hj1 : (1 : Rat) ≤ 10 ^ j := by
        have := Rat.intCast_le_intCast.mpr (show (1 : Int) ≤ 10 ^ j by have := ten_k' j; omega)
        rwa [cast_ten] at this
      grind
  obtain ⟨W, hW, hWq, hW2⟩ := W
  have fin : ∀ v : Rat, 1 ≤ v → Lg ((rem - W * 10 ^ ex) / 10 ^ (nd size + 2 + ex) - B / 10 ^ P) v → Ug ((rem + W * 10 ^ ex) / 10 ^ (nd size + 2 + ex) + B / 10 ^ P) v → (10 : Rat) ^ (nd size + 2) * v = ((1000 * (size * 10 ^ (-f).toNat) : Int) : Rat) → d = size * 10 ^ (-f).toNat := by
    intro v hv vl vu hZ
    have k := isl_end (W := W) hNk hxq eqx Rat.le_refl hbN rq dr.1 dr.2 hW hv hll vl vu el eu
    rw [hZ] at k
    rw [hd]
    refine div1000 ?_ ?_
    · have := k.1
      rw [show (500 : Rat) = ((500 : Int) : Rat) from rfl, ← Rat.intCast_sub] at this
      exact Rat.intCast_lt_intCast.mp this
    · have := k.2
      rw [show (500 : Rat) = ((500 : Int) : Rat) from rfl, ← Rat.intCast_add] at this
      exact Rat.intCast_lt_intCast.mp this
  rcases Int.lt_or_le quot 0 with hneg | hpos
  · have hm1 : quot = -1 := by omega
    have hCm : ((C : Int) : Rat) = -(L : Rat) + rem := by
      rw [hdq, hm1, show (((-1 : Int)) : Rat) = -1 from rfl]; grind
    have k := isl_v2 (w := W * 10 ^ ex) hqq0 hCm hg1 hg2 (by
      have := Rat.mul_nonneg (show 0 ≤ W - 2 by grind) (show (0 : Rat) ≤ 10 ^ ex by grind)
      grind) hll hlu gl gu
    refine fin (size * 10) ?_ k.1 k.2 ?_
    · have : (1 : Rat) ≤ size := by exact_mod_cast hs
      grind
    · rw [show (-f).toNat = nd size by omega, Rat.intCast_mul, Rat.intCast_mul, cast_ten, e100, show (((1000 : Int)) : Rat) = 1000 from rfl]
      grind
  · obtain ⟨k, hk⟩ : ∃ k : Nat, quot = (k : Int) := ⟨quot.toNat, by omega⟩
    have hkq := tenq_pos k
    have hCm : ((C : Int) : Rat) = (k : Rat) * L + rem := by rw [hdq, hk, Rat.intCast_natCast]
    have v12 := isl_v1 (k := k) (w := W * 10 ^ ex) hqq0 hCm hg1 hg2 (by rw [hk, Rat.intCast_natCast] at hWq; exact hWq) (by
      have := Rat.mul_nonneg (show 0 ≤ W - 2 by grind) (show (0 : Rat) ≤ 10 ^ ex by grind)
      grind) hll hlu gl gu
    obtain ⟨j, hj⟩ : ∃ j : Nat, nd size = k + 1 + j := ⟨nd size - k - 1, by omega⟩
    have hjq := tenq_pos j
    refine fin (size * (10 ^ k)⁻¹) ?_ v12.1 v12.2 ?_
    · have : (10 : Rat) ^ k ≤ size := by
        have e9 : (10 : Rat) ^ (nd size - 1) = 10 ^ k * 10 ^ j := by rw [← ten_add]; congr 1; omega
        have hj1 : (1 : Rat) ≤ 10 ^ j := by
          have := Rat.intCast_le_intCast.mpr (show (1 : Int) ≤ 10 ^ j by have := ten_k' j; omega)
          rwa [cast_ten] at this
        have := Rat.mul_nonneg (Rat.le_of_lt hkq) (show 0 ≤ (10 : Rat) ^ j - 1 by grind)
        grind
      have hi : (10 : Rat) ^ k * (10 ^ k)⁻¹ = 1 := by
        have : (10 : Rat) ^ k ≠ 0 := by grind
        grind
      have := Rat.mul_le_mul_of_nonneg_right this (Rat.le_of_lt (Rat.inv_pos.mpr hkq))
      grind
    · rw [show (-f).toNat = j by omega, Rat.intCast_mul, Rat.intCast_mul, cast_ten, show (((1000 : Int)) : Rat) = 1000 from rfl, e100]
      have e9 : (10 : Rat) ^ nd size = 10 ^ k * 10 * 10 ^ j := by
        rw [hj, ten_add, Rat.pow_succ]
      rw [e9]
      have : (10 : Rat) ^ k ≠ 0 := by grind
      generalize (10 : Rat) ^ k = K at *
      generalize (10 : Rat) ^ j = J at *
      grind
end Mine

end
section
open PySem PySem.W PySem.Calls PyProof.Rows PyProof.V PySem.Spec
namespace Mine
section
variable {prog : Program} {w : World} {A : Around} {E : Value → Shared → Prop} {s : Shared} {env : Env} {h₀ : Heap} {target : Expr} {body : List Stmt} {Q : Flow → Shared → Prop}
abbrev tupN (vs : List Value) (n : Nat) : Obj := { cls := .type "tuple", data := .seq vs.toArray n }
/-- a turn's end: the ledger r still stands -/
def TnEnd (h₀ : Heap) (L : Addr) (r : List (Addr × Obj)) (J : (Str → Option Value) → Prop) (s₁ s₂ : Shared) : Prop :=
  ∃ h' tk m' all, s₂ = { s₁ with heap := h', toks := tk } ∧ Fr h₀ L h' m' ∧ News h₀ L h' all ∧ (∀ p ∈ r, p ∈ all) ∧ J m'
def TnPost (h₀ : Heap) (L : Addr) (r : List (Addr × Obj)) (J : (Str → Option Value) → Prop) (s₁ : Shared) (Q : Flow → Shared → Prop) (f : Flow) (s₂ : Shared) : Prop :=
  match f with
  | .ret v => Q (.ret v) s₂
  | .brk => Q .next s₂
  | _ => TnEnd h₀ L r J s₁ s₂
theorem TnEnd.intro {L : Addr} {r all : List (Addr × Obj)} {J : (Str → Option Value) → Prop} {s₁ : Shared} {h' : Heap} {tk : Nat} {m' : Str → Option Value} (F : Fr h₀ L h' m') (N : News h₀ L h' all) (hr : ∀ p ∈ r, p ∈ all) (hj : J m') : TnEnd h₀ L r J s₁ { s₁ with heap := h', toks := tk } :=
  ⟨h', tk, m', all, rfl, F, N, hr, hj⟩
theorem dat_pair {news : List (Addr × Obj)} {v : Value} {a b : Int} (h : DatIn news v (Dat.tuple [Dat.int a, Dat.int b])) : ∃ T n ta tb, v = .ref T ∧ (T, tupN [.int a ta, .int b tb] n) ∈ news := by
  cases h with
  | tuple hm hr =>
    cases hr with
    | cons h1 hr =>
      cases h1
      cases hr with
      | cons h2 hr =>
        cases h2
        cases hr
        exact ⟨_, _, _, _, rfl, hm⟩
/-- a loop over a built list of pairs of ints, with two targets -/
theorem tnG {ax : Addr} {lo : Obj} {vs : List Value} {ds : List Dat} {n : Nat} {m₀ : Str → Option Value} {news : List (Addr × Obj)} (J : List Dat → (Str → Option Value) → Prop)
    (hh : A.handled = none) (F : Fr h₀ env.locals s.heap m₀) (N : News h₀ env.locals s.heap news) (hm : (ax, lo) ∈ news) (hc : lo.cls = .type "list") (hdt : lo.data = .seq vs.toArray n)
    (hd : DatAll news vs ds) (hsh : ∀ d ∈ ds, ∃ a b : Int, d = Dat.tuple [Dat.int a, Dat.int b]) (hj : J [] m₀)
    (turn : ∀ (pre post : List Dat) (a b : Int) (ta tb : Tok) (T : Addr) (nT : Nat) (m₁ : Str → Option Value) (h : Heap) (tk : Nat) (r : List (Addr × Obj)), ds = pre ++ Dat.tuple [Dat.int a, Dat.int b] :: post → J pre m₁ → Fr h₀ env.locals h m₁ → News h₀ env.locals h ((T, tupN [.int a ta, .int b tb] nT) :: r) →
      wpAny (model prog w) A (assign target env (.ref T)) (fun _ s₂ => wpAny (model prog w) A (execs body env) (TnPost h₀ env.locals r (J (pre ++ [Dat.tuple [Dat.int a, Dat.int b]])) { s with heap := h, toks := tk } Q) E s₂) E { s with heap := h, toks := tk })
    (done : ∀ (m₁ : Str → Option Value) (h : Heap) (tk : Nat), J ds m₁ → Fr h₀ env.locals h m₁ → News h₀ env.locals h news → Q .next { s with heap := h, toks := tk }) :
    wpAny (model prog w) A (pyIter (.ref ax)) (fun it s₂ => TurnsAt prog w A h₀ env target body Q E it s₂) E s := by
  refine iter_listTurns hh F N hm hc hdt fun I hI => ?_
  have key : ∀ (vs' : List Value) (ds' pre : List Dat), DatAll news vs' ds' → ds = pre ++ ds' → ∀ m₁, J pre m₁ → ItemsRest prog w A E h₀ env target body Q s [(I, "list_iterator")] [(ax, lo)] (vs'.map .val) m₁ news := by
    intro vs'
    induction vs' with
    | nil =>
      intro ds' pre hd' e m₁ hj
      cases hd'
      rw [List.append_nil] at e
      subst e
      exact ItemsRest.zero fun h tk F N => done m₁ h tk hj F N
    | cons v vs' ih =>
      intro ds' pre hd' e m₁ hj
      cases hd' with
      | @cons _ _ d ds' h1 hr =>
        obtain ⟨a, b, rfl⟩ := hsh d (by rw [e]; simp)
        obtain ⟨T, nT, ta, tb, rfl, hT⟩ := dat_pair h1
        refine ItemsRest.val fun h tk F => ?_
        refine AllObj.cons fun o ho => AllObj.nil fun N' => ?_
        have N2 : News h₀ env.locals h ((T, tupN [.int a ta, .int b tb] nT) :: ((I, o) :: news)) := fun p hp => by
          rcases List.mem_cons.mp hp with rfl | hp
          · exact N' _ (List.mem_append.mpr (.inr hT))
          · rcases List.mem_cons.mp hp with rfl | hp
            · exact N' _ (List.mem_append.mpr (.inl (by simp)))
            · exact N' _ (List.mem_append.mpr (.inr hp))
        refine wpAny_mono (turn pre ds' a b ta tb T nT m₁ h tk ((I, o) :: news) e hj F N2) (fun _ s₂ p => wpAny_mono p (fun f s₃ q => ?_) fun _ _ e => e) fun _ _ e => e
        have fin : TnEnd h₀ env.locals ((I, o) :: news) (J (pre ++ [Dat.tuple [Dat.int a, Dat.int b]])) { s with heap := h, toks := tk } s₃ → UnrEndW h₀ env.locals { s with heap := h, toks := tk } [(I, o)] (fun m' n' => SubL [(ax, lo)] n' ∧ ItemsRest prog w A E h₀ env target body Q s [(I, "list_iterator")] [(ax, lo)] (vs'.map .val) m' n') s₃ := by
          rintro ⟨h', tk', m', all, e', F', N', hr', hj'⟩
          refine ⟨h', tk', m', news, e', F', fun p hp => N' p (hr' p (by simpa using hp)), fun p hp q hq => ?_, ⟨hm, trivial⟩, ih ds' (pre ++ [Dat.tuple [Dat.int a, Dat.int b]]) hr (by rw [e]; simp) m' hj'⟩
          rw [List.mem_singleton.mp hq]
          exact Nat.ne_of_lt (hI p hp)
        cases f with
        | ret v => exact q
        | brk => exact q
        | next => exact fin q
        | cont => exact fin q
  exact key vs ds [] hd rfl m₀ hj
/-- two names that a turn turns -/
theorem tn2 {ax : Addr} {lo : Obj} {vs : List Value} {ds : List Dat} {n : Nat} {m₀ : Str → Option Value} {news : List (Addr × Obj)} (x1 x2 : Str) (stored : List Str) (P : List Dat → Int → Int → Prop) {a₀ b₀ : Int} {ta₀ tb₀ : Tok}
    (hh : A.handled = none) (F : Fr h₀ env.locals s.heap m₀) (N : News h₀ env.locals s.heap news) (hm : (ax, lo) ∈ news) (hc : lo.cls = .type "list") (hdt : lo.data = .seq vs.toArray n)
    (hd : DatAll news vs ds) (hsh : ∀ d ∈ ds, ∃ a b : Int, d = Dat.tuple [Dat.int a, Dat.int b]) (h1 : m₀ x1 = some (.int a₀ ta₀)) (h2 : m₀ x2 = some (.int b₀ tb₀)) (hp : P [] a₀ b₀)
    (turn : ∀ (pre post : List Dat) (a b : Int) (ta tb : Tok) (T : Addr) (nT : Nat) (X Y : Int) (tx ty : Tok) (u : Str → Option Value) (h : Heap) (tk : Nat) (r : List (Addr × Obj)), ds = pre ++ Dat.tuple [Dat.int a, Dat.int b] :: post → P pre X Y →
      Fr h₀ env.locals h (fun y => if y = x1 then some (.int X tx) else if y = x2 then some (.int Y ty) else if stored.contains y then u y else m₀ y) → News h₀ env.locals h ((T, tupN [.int a ta, .int b tb] nT) :: r) →
      wpAny (model prog w) A (assign target env (.ref T)) (fun _ s₂ => wpAny (model prog w) A (execs body env) (TnPost h₀ env.locals r (fun m => ∃ X Y tx ty, P (pre ++ [Dat.tuple [Dat.int a, Dat.int b]]) X Y ∧ m x1 = some (.int X tx) ∧ m x2 = some (.int Y ty) ∧ ∀ z, z ≠ x1 → z ≠ x2 → stored.contains z = false → m z = m₀ z) { s with heap := h, toks := tk } Q) E s₂) E { s with heap := h, toks := tk })
    (done : ∀ (X Y : Int) (tx ty : Tok) (u : Str → Option Value) (h : Heap) (tk : Nat), P ds X Y → Fr h₀ env.locals h (fun y => if y = x1 then some (.int X tx) else if y = x2 then some (.int Y ty) else if stored.contains y then u y else m₀ y) → News h₀ env.locals h news → Q .next { s with heap := h, toks := tk }) :
    wpAny (model prog w) A (pyIter (.ref ax)) (fun it s₂ => TurnsAt prog w A h₀ env target body Q E it s₂) E s := by
  have em : ∀ (m : Str → Option Value) (X Y : Int) (tx ty : Tok), m x1 = some (.int X tx) → m x2 = some (.int Y ty) → (∀ z, z ≠ x1 → z ≠ x2 → stored.contains z = false → m z = m₀ z) → m = fun y => if y = x1 then some (.int X tx) else if y = x2 then some (.int Y ty) else if stored.contains y then m y else m₀ y := by
    intro m X Y tx ty e1 e2 e3
    funext y
    by_cases c1 : y = x1
    · rw [if_pos c1, c1]; exact e1
    · rw [if_neg c1]
      by_cases c2 : y = x2
      · rw [if_pos c2, c2]; exact e2
      · rw [if_neg c2]
        cases c3 : stored.contains y with
        | true => simp
        | false => simp only [Bool.false_eq_true, if_false]; exact e3 y c1 c2 c3
  refine tnG (fun pre m => ∃ X Y tx ty, P pre X Y ∧ m x1 = some (.int X tx) ∧ m x2 = some (.int Y ty) ∧ ∀ z, z ≠ x1 → z ≠ x2 → stored.contains z = false → m z = m₀ z) hh F N hm hc hdt hd hsh ⟨a₀, b₀, ta₀, tb₀, hp, h1, h2, fun _ _ _ _ => rfl⟩ ?_ ?_
  · intro pre post a b ta tb T nT m₁ h tk r e ⟨X, Y, tx, ty, hP, e1, e2, e3⟩ F N
    rw [em m₁ X Y tx ty e1 e2 e3] at F
    exact turn pre post a b ta tb T nT X Y tx ty m₁ h tk r e hP F N
  · intro m₁ h tk ⟨X, Y, tx, ty, hP, e1, e2, e3⟩ F N
    rw [em m₁ X Y tx ty e1 e2 e3] at F
    exact done X Y tx ty m₁ h tk hP F N
/-- no name -/
theorem tn0 {ax : Addr} {lo : Obj} {vs : List Value} {ds : List Dat} {n : Nat} {m₀ : Str → Option Value} {news : List (Addr × Obj)} (stored : List Str)
    (hh : A.handled = none) (F : Fr h₀ env.locals s.heap m₀) (N : News h₀ env.locals s.heap news) (hm : (ax, lo) ∈ news) (hc : lo.cls = .type "list") (hdt : lo.data = .seq vs.toArray n)
    (hd : DatAll news vs ds) (hsh : ∀ d ∈ ds, ∃ a b : Int, d = Dat.tuple [Dat.int a, Dat.int b])
    (turn : ∀ (pre post : List Dat) (a b : Int) (ta tb : Tok) (T : Addr) (nT : Nat) (u : Str → Option Value) (h : Heap) (tk : Nat) (r : List (Addr × Obj)), ds = pre ++ Dat.tuple [Dat.int a, Dat.int b] :: post →
      Fr h₀ env.locals h (fun y => if stored.contains y then u y else m₀ y) → News h₀ env.locals h ((T, tupN [.int a ta, .int b tb] nT) :: r) →
      wpAny (model prog w) A (assign target env (.ref T)) (fun _ s₂ => wpAny (model prog w) A (execs body env) (TnPost h₀ env.locals r (fun m => ∀ z, stored.contains z = false → m z = m₀ z) { s with heap := h, toks := tk } Q) E s₂) E { s with heap := h, toks := tk })
    (done : ∀ (u : Str → Option Value) (h : Heap) (tk : Nat), Fr h₀ env.locals h (fun y => if stored.contains y then u y else m₀ y) → News h₀ env.locals h news → Q .next { s with heap := h, toks := tk }) :
    wpAny (model prog w) A (pyIter (.ref ax)) (fun it s₂ => TurnsAt prog w A h₀ env target body Q E it s₂) E s := by
  have em : ∀ (m : Str → Option Value), (∀ z, stored.contains z = false → m z = m₀ z) → m = fun y => if stored.contains y then m y else m₀ y := by
    intro m e3
    funext y
    cases c3 : stored.contains y with
    | true => simp
    | false => simp only [Bool.false_eq_true, if_false]; exact e3 y c3
  refine tnG (fun pre m => ∀ z, stored.contains z = false → m z = m₀ z) hh F N hm hc hdt hd hsh (fun _ _ => rfl) ?_ ?_
  · intro pre post a b ta tb T nT m₁ h tk r e e3 F N
    rw [em m₁ e3] at F
    exact turn pre post a b ta tb T nT m₁ h tk r e F N
  · intro m₁ h tk e3 F N
    rw [em m₁ e3] at F
    exact done m₁ h tk F N
end
end Mine

end
section
open PySem PySem.W PySem.Calls PyProof.Rows PyProof.V PySem.Spec
namespace Mine
def dn : Dat → Int
  | .tuple [.int a, .int _] => a
  | _ => 1
def prodD : List Dat → Int
  | [] => 1
  | d :: r => dn d * prodD r
theorem prodD_append (a b : List Dat) : prodD (a ++ b) = prodD a * prodD b := by
  induction a with
  | nil => simp [prodD]
  | cons d r ih => rw [List.cons_append, prodD, prodD, ih, Int.mul_assoc]
/-- what the first loop keeps -/
def P6 (out : List Dat) (product : Int) : Prop := 1 ≤ product ∧ product < 10 ^ 36 ∧ product = prodD out ∧ out.length ≤ 5 ∧ ∀ d ∈ out, ∃ a m : Int, d = Dat.tuple [Dat.int a, Dat.int m] ∧ 2 ≤ a ∧ a ≤ 1000000 ∧ 2 ≤ m ∧ m ≤ 4
section
variable {M : Model} {A : Around} {E : Value → Shared → Prop} {s : Shared} {env : Env} {Q : Unit → Shared → Prop}
theorem st6_n {D : Int} {t : Tok} (h : ∀ N : Int, 1 ≤ N → N ≤ 1000000 → wpAny M A (storeName env (Str.ofString "n") (.int N t)) Q E s) :
    wpAny M A (storeName env (Str.ofString "n") (.int (D.fmod (10 ^ Int.toNat 6) + 1) t)) Q E s := by
  have e : (10 : Int) ^ Int.toNat 6 = 1000000 := by decide
  rw [e]
  have := fmod_rng (D := D) (b := 1000000) (by decide)
  exact h _ (by omega) (by omega)
theorem st6_p2 {p : Int} {t : Tok} (h : wpAny M A (storeName env (Str.ofString "places") (.int ((nd p + 2 : Nat) : Int) t)) Q E s) :
    wpAny M A (storeName env (Str.ofString "places") (.int (((Str.ofString (toString p)).length : Int) + 2) t)) Q E s := by
  have : ((Str.ofString (toString p)).length : Int) + 2 = ((nd p + 2 : Nat) : Int) := by
    have : (Str.ofString (toString p)).length = nd p := rfl
    rw [this]; omega
  rw [this]; exact h
theorem st6_p1 {p : Int} {t : Tok} (h : wpAny M A (storeName env (Str.ofString "places") (.int ((nd p + 1 : Nat) : Int) t)) Q E s) :
    wpAny M A (storeName env (Str.ofString "places") (.int (((Str.ofString (toString p)).length : Int) + 1) t)) Q E s := by
  have : ((Str.ofString (toString p)).length : Int) + 1 = ((nd p + 1 : Nat) : Int) := by
    have : (Str.ofString (toString p)).length = nd p := rfl
    rw [this]; omega
  rw [this]; exact h
end
theorem P6_start : P6 [] 1 := ⟨by decide, by decide, rfl, by decide, fun _ h => nomatch h⟩
theorem P6_turn {out : List Dat} {p N D : Int} (h : P6 out p) (h1 : 1 < N) (h2 : N ≤ 1000000) (h3 : p * N < 10 ^ Int.toNat 36) (h4 : (out.length : Int) < 5) : P6 (out ++ [Dat.tuple [Dat.int N, Dat.int (D.fmod 3 + 2)]]) (p * N) := by
  obtain ⟨a, b, c, d, e⟩ := h
  have := fmod_rng (D := D) (b := 3) (by decide)
  refine ⟨?_, h3, ?_, ?_, ?_⟩
  · have := Int.mul_pos (show 0 < p by omega) (show 0 < N by omega)
    omega
  · rw [prodD_append, ← c]; simp [prodD, dn]
  · rw [List.length_append, List.length_singleton]; omega
  · intro x hx
    rcases List.mem_append.mp hx with hx | hx
    · exact e x hx
    · rw [List.mem_singleton.mp hx]
      exact ⟨_, _, rfl, by omega, h2, by omega, by omega⟩
theorem p6_fit {out : List Dat} {p : Int} (h : P6 out p) : Fit 200 p := by
  have e : Fit 200 ((10 : Int) ^ 36) := by unfold Fit; decide +kernel
  exact Fit.of_le e (by have := h.1; omega) (Int.le_of_lt h.2.1)
end Mine
namespace Mine
open PySem PySem.W
theorem P6_step {out : List Dat} {p : Int} (h : P6 out p) : out.length ≤ 5 ∧ P6 out p := ⟨h.2.2.2.1, h⟩
theorem P6_keep {out : List Dat} {p : Int} (h : P6 out p) : out.length ≤ 5 ∧ P6 out p := ⟨h.2.2.2.1, h⟩
end Mine

end
section
namespace Mine
/-! the logarithm as near as one likes; roots -/
theorem log_step {d : Rat} (hd : 0 ≤ d) : ∀ i : Nat, ∃ x : Rat, Lg x (1 + i * d) ∧ Ug (x + d * (1 - 1 / (1 + i * d))) (1 + i * d)
  | 0 => by
    refine ⟨0, Lg.zero.mono Rat.le_refl ?_, Ug.zero.mono ?_ ?_⟩
    · push_cast; grind
    · push_cast; grind
    · push_cast; grind
  | i + 1 => by
    obtain ⟨x, a, b⟩ := log_step hd i
    have hi : (0 : Rat) ≤ i := Rat.natCast_nonneg
    have k0 := Rat.mul_nonneg hi hd
    have p0 : 0 < 1 + i * d := by grind
    have p1 : 0 < 1 + ((i + 1 : Nat) : Rat) * d := by push_cast; grind
    have e1 : 1 + ((i + 1 : Nat) : Rat) * d = (1 + i * d) + d := by push_cast; grind
    rw [e1] at p1 ⊢
    generalize 1 + (i : Rat) * d = u at *
    have hu : u ≠ 0 := by grind
    have hv : u + d ≠ 0 := by grind
    have l := Lg.add a (Lg.basic (t := u / (u + d)) (q := (u + d) / u) (rdiv_pos p0 p1) (by
      rw [rdiv_mul p0]
      have : (u + d) / (u + d) = 1 := by grind
      grind))
    have r := Ug.add (rdiv_pos p1 p0) b (Ug.basic (q := (u + d) / u) (rdiv_pos p1 p0))
    have e2 : u * ((u + d) / u) = u + d := by grind
    rw [e2] at l r
    refine ⟨x + d / (u + d), l.mono ?_ Rat.le_refl, r.mono ?_ Rat.le_refl⟩
    · have : 1 - u / (u + d) = d / (u + d) := by grind
      grind
    · have a1 : (u + d) / u - 1 = d / u := by grind
      have a2 : d * (1 - 1 / u) = d - d / u := by grind
      have a3 : d * (1 - 1 / (u + d)) = d - d / (u + d) := by grind
      rw [a1, a2, a3]; grind
theorem log_near {q e : Rat} (hq : 1 ≤ q) (he : 0 < e) : ∃ x, Lg x q ∧ Ug (x + e) q := by
  obtain ⟨n, hn, h⟩ := arch ((q - 1) / e)
  have hnq : (0 : Rat) < n := by exact_mod_cast hn
  have hd : 0 ≤ (q - 1) / n := le_rdiv hnq (by grind)
  obtain ⟨x, a, b⟩ := log_step hd n
  have e1 : 1 + (n : Rat) * ((q - 1) / n) = q := by
    have : (n : Rat) ≠ 0 := by grind
    grind
  rw [e1] at a b
  refine ⟨x, a, b.mono ?_ Rat.le_refl⟩
  have k1 : (q - 1) / n ≤ e := by
    refine rdiv_le hnq ?_
    have := Rat.mul_le_mul_of_nonneg_right h (Rat.le_of_lt he)
    rw [fld3 he] at this
    grind
  have hi : 0 < 1 / q := rdiv_pos (by grind) (by grind)
  have k2 := Rat.mul_nonneg hd (Rat.le_of_lt hi)
  generalize 1 / q = w at *
  generalize (q - 1) / n = d at *
  grind
theorem Lg.root {q r : Rat} {k : Nat} (hq : 1 ≤ q) (hk : 0 < k) (h : Lg r (q ^ k)) : Lg (r / k) q := by
  have hkq : (0 : Rat) < k := by exact_mod_cast hk
  refine Lg.lim fun e he => ?_
  obtain ⟨x, a, b⟩ := log_near hq he
  have u := Ug.pow (by grind) b k
  have c := h.le u
  refine a.mono ?_ Rat.le_refl
  have : r / k ≤ x + e := rdiv_le hkq (by grind)
  grind
theorem Ug.root {q r : Rat} {k : Nat} (hq : 1 ≤ q) (hk : 0 < k) (h : Ug r (q ^ k)) : Ug (r / k) q := by
  have hkq : (0 : Rat) < k := by exact_mod_cast hk
  refine Ug.lim fun e he => ?_
  obtain ⟨x, a, b⟩ := log_near hq he
  have u := Lg.pow a k
  have c := u.le h
  refine b.mono ?_ Rat.le_refl
  have : x ≤ r / k := le_rdiv hkq (by grind)
  grind
end Mine

end
section
open PySem PySem.W PyProof.Rows
namespace Mine
/-- what the walk of _dlog asks -/
def DlOk (n : Nat) (c e : Int) : Prop := 3 ≤ n ∧ n ≤ 46 ∧ Fit 1100 c ∧ 0 ≤ c ∧ -10000000000 ≤ dlF c e ∧ dlF c e ≤ 10000000000 ∧ n + (nd ((dlF c e).natAbs : Int) - 1) ≤ 46 ∧ -200 ≤ e + n - dlF c e ∧ e + n - dlF c e ≤ 200 ∧ RedOk (dlC c (e + n - dlF c e)) (10 ^ n)
theorem dlF_up {c e : Int} {f : Nat} (hf : e + nd c - 1 = (f : Int)) : dlF c e = (f : Int) := by
  unfold dlF
  rw [if_pos (by simp; omega)]; omega
theorem nd_small {x : Int} {k : Nat} (h0 : 0 ≤ x) (hk : 0 < k) (h : x < 10 ^ k) : nd x ≤ k := (nd_le h0 hk).mpr h
/-- the first two digits and so on: the mantissa of _dlog from one up to ten -/
theorem dl_red {n : Nat} {c : Int} (hn : 3 ≤ n) (hc : 1 ≤ c) : RedOk (dlC c ((n : Int) + 1 - nd c)) (10 ^ n) := by
  have h1 := nd_pos c (by omega)
  obtain ⟨c1, c2⟩ := nd_lo hc
  have hMk : (1000 : Int) ≤ 10 ^ n := by
    obtain ⟨k, rfl⟩ : ∃ k, n = 3 + k := ⟨n - 3, by omega⟩
    rw [Int.pow_add]
    have : (0 : Int) < 10 ^ k := Int.pow_pos (by decide)
    have : (10 : Int) ^ 3 = 1000 := by decide
    omega
  rcases Int.lt_or_le ((n : Int) + 1 - nd c) 0 with hK | hK
  · rw [dlC_neg (by omega)]
    obtain ⟨j, hj⟩ : ∃ j : Nat, nd c = n + 1 + j ∧ 0 < j := ⟨nd c - (n + 1), by omega, by omega⟩
    have ej : (-((n : Int) + 1 - nd c)).toNat = j := by omega
    rw [ej]
    have hpj : (0 : Int) < 10 ^ j := Int.pow_pos (by decide)
    have e1 : (10 : Int) ^ (nd c - 1) = 10 ^ n * 10 ^ j := by rw [← Int.pow_add]; congr 1; omega
    have e2 : (10 : Int) ^ nd c = 10 * 10 ^ n * 10 ^ j := by rw [Int.mul_assoc, ← Int.pow_add, ← Int.pow_succ']; congr 1; omega
    exact redOk_B hMk (le_divN hpj (by rw [← e1]; exact c1)) (divN_le hpj (by rw [← e2]; omega))
  · rw [dlC_pos hK]
    obtain ⟨j, hj⟩ : ∃ j : Nat, n + 1 = nd c + j := ⟨n + 1 - nd c, by omega⟩
    have ej : ((n : Int) + 1 - nd c).toNat = j := by omega
    rw [ej]
    have hpj : (0 : Int) < 10 ^ j := Int.pow_pos (by decide)
    have e1 : (10 : Int) ^ n = 10 ^ (nd c - 1) * 10 ^ j := by rw [← Int.pow_add]; congr 1; omega
    have e2 : (10 : Int) * 10 ^ n = 10 ^ nd c * 10 ^ j := by rw [← Int.pow_succ', ← Int.pow_add]; congr 1
    refine redOk_B hMk (by rw [e1]; exact Int.mul_le_mul_of_nonneg_right c1 (by omega)) ?_
    rw [e2]
    exact Int.mul_le_mul_of_nonneg_right (by omega) (by omega)
theorem dlOk_up {n f : Nat} {c e : Int} (hn : 3 ≤ n) (hn2 : n ≤ 46) (hc : 1 ≤ c) (hF : Fit 1100 c) (hf : e + nd c - 1 = (f : Int)) (hf2 : f ≤ 100) (hx : n + (nd (f : Int) - 1) ≤ 46) (he : nd c ≤ 100) : DlOk n c e := by
  have h1 := nd_pos c (by omega)
  have hF' := dlF_up hf
  unfold DlOk
  rw [hF', show e + (n : Int) - (f : Int) = (n : Int) + 1 - nd c by omega, show (((f : Int).natAbs : Nat) : Int) = (f : Int) by omega]
  exact ⟨hn, hn2, hF, by omega, by omega, by omega, hx, by omega, by omega, dl_red hn hc⟩
theorem nd_f1 {f : Nat} (h : f ≤ 9) : nd (f : Int) - 1 = 0 := by
  have := nd_small (x := (f : Int)) (k := 1) (by omega) (by decide) (by omega)
  omega
theorem nd_f2 {f : Nat} (h : f ≤ 99) : nd (f : Int) - 1 ≤ 1 := by
  have := nd_small (x := (f : Int)) (k := 2) (by omega) (by decide) (by omega)
  omega
theorem nd_mono {x y : Int} (h0 : 1 ≤ x) (h : x ≤ y) : nd x ≤ nd y := nd_small (by omega) (nd_pos y (by omega)) (Int.lt_of_le_of_lt h (nd_lo (by omega)).2)
theorem nd_mul_pow {a : Int} (ha : 1 ≤ a) (m : Nat) : nd (a * 10 ^ m) = nd a + m := by
  have h1 := nd_pos a (by omega)
  obtain ⟨c1, c2⟩ := nd_lo ha
  have hp : (0 : Int) < 10 ^ m := Int.pow_pos (by decide)
  have e := nd_eq (x := a * 10 ^ m) (k := nd a - 1 + m) (by rw [Int.pow_add]; exact Int.mul_le_mul_of_nonneg_right c1 (by omega)) (by
    rw [show nd a - 1 + m + 1 = nd a + m by omega, Int.pow_add]
    exact Int.mul_lt_mul_of_pos_right c2 hp)
  omega
theorem ipow_le {x y : Int} (h0 : 0 ≤ x) (h : x ≤ y) : ∀ n : Nat, x ^ n ≤ y ^ n
  | 0 => by simp
  | n + 1 => by
    rw [Int.pow_succ, Int.pow_succ]
    exact Int.mul_le_mul (ipow_le h0 h n) h h0 (Int.pow_nonneg (by omega))
theorem b_ten {b : Int} (hb1 : 2 ≤ b) (hb2 : b ≤ 4) : (10 : Int) ^ b.toNat ≤ 10000 ∧ 0 < (10 : Int) ^ b.toNat := by
  have : b.toNat = 2 ∨ b.toNat = 3 ∨ b.toNat = 4 := by omega
  rcases this with h | h | h <;> rw [h] <;> decide
theorem a_nd {a : Int} (h1 : 2 ≤ a) (h2 : a ≤ 1000000) : nd a ≤ 7 := nd_small (by omega) (by decide) (by omega)
theorem p_nd {ds : List Dat} {p : Int} (h : P6 ds p) : nd p ≤ 36 ∧ 1 ≤ nd p := ⟨nd_small (by have := h.1; omega) (by decide) h.2.1, nd_pos p (by have := h.1; omega)⟩
theorem pow_nd {a b : Int} (h1 : 2 ≤ a) (h2 : a ≤ 1000000) (hb1 : 2 ≤ b) (hb2 : b ≤ 4) : 1 ≤ a ^ b.toNat ∧ a ^ b.toNat ≤ 10 ^ 24 ∧ nd (a ^ b.toNat) ≤ 25 ∧ a ≤ a ^ b.toNat := by
  have hp : 0 < a ^ b.toNat := Int.pow_pos (by omega)
  have hle : a ^ b.toNat ≤ 1000000 ^ b.toNat := ipow_le (by omega) h2 _
  have h4 : (1000000 : Int) ^ b.toNat ≤ 10 ^ 24 := by
    have : b.toNat = 2 ∨ b.toNat = 3 ∨ b.toNat = 4 := by omega
    rcases this with h | h | h <;> rw [h] <;> decide
  refine ⟨by omega, by omega, nd_small (by omega) (by decide) ?_, ?_⟩
  · have : (10 : Int) ^ 24 < 10 ^ 25 := by decide
    omega
  · obtain ⟨j, hj⟩ : ∃ j, b.toNat = j + 1 := ⟨b.toNat - 1, by omega⟩
    rw [hj, Int.pow_succ]
    have hpj : 0 < a ^ j := Int.pow_pos (by omega)
    have := Int.mul_le_mul_of_nonneg_right (show (1 : Int) ≤ a ^ j by omega) (show 0 ≤ a by omega)
    omega
theorem log10_hi' : Ug (2303 / 1000) 10 := (l10_ug (q := 46) (by decide)).mono (by decide +kernel) Rat.le_refl
/-! the four calls of _dlog -/
section
variable {ds : List Dat} {p a b : Int}
theorem dlok1 {k : Nat} (hk : 1 ≤ k) (hk2 : k ≤ 38) (h1 : 2 ≤ a) (h2 : a ≤ 1000000) : DlOk (k + 2) a 0 := by
  have hn := a_nd h1 h2
  have hp := nd_pos a (by omega)
  refine dlOk_up (f := nd a - 1) (by omega) (by omega) (by omega) (Fit.mono (Fit.small (by omega) (by omega)) (by decide)) (by omega) (by omega) ?_ (by omega)
  rw [nd_f1 (by omega)]; omega
theorem dlok2 {k : Nat} (hk : 1 ≤ k) (hk2 : k ≤ 38) (h1 : 2 ≤ a) (h2 : a ≤ 1000000) (hb1 : 2 ≤ b) (hb2 : b ≤ 4) : DlOk (k + 2) (a * 10 ^ b.toNat) (-b) := by
  have hn := a_nd h1 h2
  have hp := nd_pos a (by omega)
  have hm := nd_mul_pow (show 1 ≤ a by omega) b.toNat
  have hpw : (0 : Int) < 10 ^ b.toNat := Int.pow_pos (by decide)
  refine dlOk_up (f := nd a - 1) (by omega) (by omega) ?_ (Fit.mono (Fit.mul (Fit.small (by omega) (by omega)) (Fit.small (by have := b_ten hb1 hb2; omega) (by have := b_ten hb1 hb2; omega))) (by decide)) (by rw [hm]; omega) (by omega) ?_ (by rw [hm]; omega)
  · have := Int.mul_pos (show 0 < a by omega) hpw
    omega
  · rw [nd_f1 (by omega)]; omega
theorem dlok4 {k : Nat} (hk : 1 ≤ k) (hk2 : k ≤ 38) (h1 : 2 ≤ a) (h2 : a ≤ 1000000) (hb1 : 2 ≤ b) (hb2 : b ≤ 4) : DlOk (k + 2) (a ^ b.toNat) 0 := by
  obtain ⟨q1, q2, q3, q4⟩ := pow_nd h1 h2 hb1 hb2
  have hp := nd_pos (a ^ b.toNat) (by omega)
  have e : Fit 200 ((10 : Int) ^ 24) := by unfold Fit; decide +kernel
  refine dlOk_up (f := nd (a ^ b.toNat) - 1) (by omega) (by omega) q1 (Fit.mono (Fit.of_le e (by omega) q2) (by decide)) (by omega) (by omega) ?_ (by omega)
  have := nd_f2 (f := nd (a ^ b.toNat) - 1) (by omega)
  omega
end
/-! what is told -/
theorem told_lb {n f : Nat} {c e r : Int} {v : Rat} (hn : 1 ≤ n) (hc : 1 ≤ c) (hf : e + nd c - 1 = (f : Int)) (hx : n + 2 + (nd (f : Int) - 1) ≤ 46) (hv : (c : Rat) / 10 ^ (nd c - 1) * 10 ^ f = v) (h : IsDlog (n + 2) c e r) :
    Lg (((r : Rat) - 93 / 100) / 10 ^ n) v ∧ Ug (((r : Rat) + 93 / 100) / 10 ^ n) v := by
  have k := dl_gen (by omega) hc hf hx h
  rw [hv, ten_add, show (10 : Rat) ^ 2 = 100 by decide +kernel] at k
  have hm := tenq_pos n
  have e1 : (100 * (r : Rat) - 93) / (10 ^ n * 100) = ((r : Rat) - 93 / 100) / 10 ^ n := by
    have : (10 : Rat) ^ n ≠ 0 := by grind
    grind
  have e2 : (100 * (r : Rat) + 93) / (10 ^ n * 100) = ((r : Rat) + 93 / 100) / 10 ^ n := by
    have : (10 : Rat) ^ n ≠ 0 := by grind
    grind
  rw [e1, e2] at k
  exact k
theorem mant0 {c : Int} (hc : 1 ≤ c) {f : Nat} (hf : nd c - 1 = f) : (c : Rat) / 10 ^ (nd c - 1) * 10 ^ f = c := by
  rw [hf]
  exact fld3 (tenq_pos f)
theorem told1 {n : Nat} {a r : Int} (hn : 1 ≤ n) (hn2 : n ≤ 38) (h1 : 2 ≤ a) (h2 : a ≤ 1000000) (h : IsDlog (n + 2) a 0 r) : Lg (((r : Rat) - 93 / 100) / 10 ^ n) a ∧ Ug (((r : Rat) + 93 / 100) / 10 ^ n) a := by
  have hk := a_nd h1 h2
  have hp := nd_pos a (by omega)
  exact told_lb (f := nd a - 1) hn (by omega) (by omega) (by rw [nd_f1 (by omega)]; omega) (mant0 (by omega) rfl) h
theorem told2 {n : Nat} {a b r : Int} (hn : 1 ≤ n) (hn2 : n ≤ 38) (h1 : 2 ≤ a) (h2 : a ≤ 1000000) (hb1 : 2 ≤ b) (hb2 : b ≤ 4) (h : IsDlog (n + 2) (a * 10 ^ b.toNat) (-b) r) : Lg (((r : Rat) - 93 / 100) / 10 ^ n) a ∧ Ug (((r : Rat) + 93 / 100) / 10 ^ n) a := by
  have hk := a_nd h1 h2
  have hp := nd_pos a (by omega)
  have hm := nd_mul_pow (show 1 ≤ a by omega) b.toNat
  have hpw : (0 : Int) < 10 ^ b.toNat := Int.pow_pos (by decide)
  refine told_lb (f := nd a - 1) hn ?_ (by rw [hm]; omega) (by rw [nd_f1 (by omega)]; omega) ?_ h
  · have := Int.mul_pos (show 0 < a by omega) hpw
    omega
  · rw [hm, Rat.intCast_mul, cast_ten, show nd a + b.toNat - 1 = b.toNat + (nd a - 1) by omega, ten_add]
    have q1 := tenq_pos b.toNat
    have q2 := tenq_pos (nd a - 1)
    generalize (10 : Rat) ^ b.toNat = x at *
    generalize (10 : Rat) ^ (nd a - 1) = y at *
    have : x ≠ 0 := by grind
    have : y ≠ 0 := by grind
    grind
theorem told4 {n : Nat} {a b r : Int} (hn : 1 ≤ n) (hn2 : n ≤ 38) (h1 : 2 ≤ a) (h2 : a ≤ 1000000) (hb1 : 2 ≤ b) (hb2 : b ≤ 4) (h : IsDlog (n + 2) (a ^ b.toNat) 0 r) : Lg (((r : Rat) - 93 / 100) / 10 ^ n) ((a : Rat) ^ b.toNat) ∧ Ug (((r : Rat) + 93 / 100) / 10 ^ n) ((a : Rat) ^ b.toNat) := by
  obtain ⟨q1, q2, q3, q4⟩ := pow_nd h1 h2 hb1 hb2
  have hp := nd_pos (a ^ b.toNat) (by omega)
  have e : ((a ^ b.toNat : Int) : Rat) = (a : Rat) ^ b.toNat := Rat.intCast_pow ..
  rw [← e]
  have := nd_f2 (f := nd (a ^ b.toNat) - 1) (by omega)
  exact told_lb (f := nd (a ^ b.toNat) - 1) hn q1 (by omega) (by omega) (mant0 q1 rfl) h
/-- what the walk of _law_is_log asks -/
def IlOk (log places size : Int) : Prop := 1 ≤ size ∧ Fit 1100 size ∧ Fit 1100 log ∧ 0 ≤ places ∧ places ≤ 200 ∧ nd size + 2 + dxE log (-places) ≤ 46 ∧ ∀ d f, IsDexp (nd size + 2) log (-places) d f → f ≤ 0 ∧ -100 ≤ f ∧ d = size * 10 ^ (-f).toNat
theorem ilok {size G : Int} {P : Nat} {B : Rat} (hs : 1 ≤ size) (hs36 : size < 10 ^ 36) (hP : 2 ≤ P) (hP2 : P ≤ 38) (hB0 : 0 ≤ B) (hB10 : B ≤ 10) (hB : B * 10 ^ nd size * 100 ≤ 38 * 10 ^ P)
    (gl : Lg (((G : Rat) - B) / 10 ^ P) size) (gu : Ug (((G : Rat) + B) / 10 ^ P) size) : IlOk G (P : Int) size := by
  have hn36 : nd size ≤ 36 := nd_small (by omega) (by decide) hs36
  have e36 : Fit 200 ((10 : Int) ^ 36) := by unfold Fit; decide +kernel
  have hPq := tenq_pos P
  have hPi := ten_k' P
  -- bounds of G
  have g1 : -10 ≤ G := by
    have a := (Lg.zero.mono Rat.le_refl (show (1 : Rat) ≤ size by exact_mod_cast hs)).le gu
    have := Rat.mul_le_mul_of_nonneg_right a (Rat.le_of_lt hPq)
    rw [fld3 hPq] at this
    have h2 : ((-10 : Int) : Rat) ≤ (G : Rat) := by rw [show (((-10 : Int)) : Rat) = -10 from rfl]; grind
    exact Rat.intCast_le_intCast.mp h2
  have g2 : G < 100 * 10 ^ P := by
    have u := (Ug.pow (by grind) log10_hi' 36).mono Rat.le_refl (show (size : Rat) ≤ 10 ^ 36 by
      have := Rat.intCast_le_intCast.mpr (Int.le_of_lt hs36)
      rwa [cast_ten] at this)
    have c := gl.le u
    have := Rat.mul_le_mul_of_nonneg_right c (Rat.le_of_lt hPq)
    rw [fld3 hPq] at this
    have h1 : (1 : Rat) ≤ 10 ^ P := by
      have := Rat.intCast_le_intCast.mpr (show (1 : Int) ≤ 10 ^ P by omega)
      rwa [cast_ten] at this
    have h2 : (G : Rat) < ((100 * 10 ^ P : Int) : Rat) := by
      rw [Rat.intCast_mul, cast_ten, show (((100 : Int)) : Rat) = 100 from rfl]
      push_cast at this
      grind
    exact Rat.intCast_lt_intCast.mp h2
  have hG : Fit 1100 G := by
    have e2 : Fit 1100 (100 * (10 : Int) ^ 38) := by unfold Fit; decide +kernel
    have h3 : (10 : Int) ^ P ≤ 10 ^ 38 := by
      obtain ⟨j, hj⟩ := Nat.le.dest hP2
      rw [← hj, Int.pow_add]
      have p2 := ten_k' j
      have := Int.mul_le_mul_of_nonneg_left (show (1 : Int) ≤ 10 ^ j by omega) (Int.le_of_lt hPi)
      omega
    exact Fit.of_le e2 (by omega) (by omega)
  have hnG : nd G ≤ P + 2 := by
    rcases Int.lt_or_le G 0 with h | h
    · have : G = -1 ∨ G = -2 ∨ G = -3 ∨ G = -4 ∨ G = -5 ∨ G = -6 ∨ G = -7 ∨ G = -8 ∨ G = -9 ∨ G = -10 := by omega
      have hh : nd G ≤ 3 := by rcases this with h | h | h | h | h | h | h | h | h | h <;> rw [h] <;> decide +kernel
      omega
    · refine nd_small h (by omega) ?_
      rw [Int.pow_add, show (10 : Int) ^ 2 = 100 by decide]
      omega
  have hq : nd size + 2 + dxE G (-(P : Int)) ≤ 46 := by
    have : dxE G (-(P : Int)) ≤ 1 := by unfold dxE; omega
    omega
  refine ⟨hs, Fit.mono (Fit.of_le e36 (by omega) (by omega)) (by decide), hG, by omega, by omega, hq, ?_⟩
  intro d f h
  exact islog hs hn36 hB0 hB hq gl gu h
end Mine

end
section
open PySem PySem.W PySem.Calls PyProof.Rows PyProof.V PySem.Spec
namespace Mine
abbrev tpl (a b : Int) : Dat := Dat.tuple [Dat.int a, Dat.int b]
/-- log within j told logarithms' errors -/
def LB (k j : Nat) (X Y : Int) : Prop := Lg (((X : Rat) - 93 / 100 * j) / 10 ^ k) Y ∧ Ug (((X : Rat) + 93 / 100 * j) / 10 ^ k) Y
def P2 (p : Int) (ds pre : List Dat) (X Y : Int) : Prop := (∃ post, ds = pre ++ post) ∧ Y = prodD pre ∧ LB (nd p + 2) pre.length X Y
def P3 (p : Int) (ds pre : List Dat) (X Y : Int) : Prop := ∃ post, ds = pre ++ post ∧ Y = prodD post ∧ LB (nd p + 2) (5 + pre.length) X Y
section
variable {ds pre post : List Dat} {p a b X Y r : Int}
theorem prod_pos : ∀ {l : List Dat}, (∀ d ∈ l, ∃ a m : Int, d = Dat.tuple [Dat.int a, Dat.int m] ∧ 2 ≤ a ∧ a ≤ 1000000 ∧ 2 ≤ m ∧ m ≤ 4) → 1 ≤ prodD l
  | [], _ => by simp [prodD]
  | d :: r, h => by
    obtain ⟨a, m, rfl, h1, _⟩ := h d (by simp)
    have ih := prod_pos (l := r) fun x hx => h x (by simp [hx])
    rw [prodD]
    show 1 ≤ a * prodD r
    have := Int.mul_pos (show 0 < a by omega) (show 0 < prodD r by omega)
    omega
theorem P6_el (h : P6 ds p) (e : ds = pre ++ tpl a b :: post) : 2 ≤ a ∧ a ≤ 1000000 ∧ 2 ≤ b ∧ b ≤ 4 := by
  obtain ⟨a', b', e', h1, h2, h3, h4⟩ := h.2.2.2.2 (tpl a b) (by rw [e]; simp)
  injection e' with e'
  injection e' with e1 e2
  injection e1 with e1
  injection e2 with e2 _
  injection e2 with e2
  subst e1 e2
  exact ⟨h1, h2, h3, h4⟩
/-- parts of the product -/
theorem prod_parts (h : P6 ds p) (e : ds = pre ++ post) : 1 ≤ prodD pre ∧ prodD pre ≤ p ∧ 1 ≤ prodD post ∧ prodD post ≤ p := by
  obtain ⟨h1, h2, h3, h4, h5⟩ := h
  subst e
  rw [prodD_append] at h3
  have a := prod_pos (l := pre) fun d hd => h5 d (by simp [hd])
  have b := prod_pos (l := post) fun d hd => h5 d (by simp [hd])
  have k1 := Int.mul_le_mul_of_nonneg_left b (show 0 ≤ prodD pre by omega)
  have k2 := Int.mul_le_mul_of_nonneg_right a (show 0 ≤ prodD post by omega)
  omega
theorem tpl_len (h : P6 ds p) (e : ds = pre ++ post) : pre.length ≤ 5 := by
  have := h.2.2.2.1
  rw [e, List.length_append] at this
  omega
theorem lb_isl (h : P6 ds p) (hY : 1 ≤ Y) (hYp : Y ≤ p) {j : Nat} (hj : j ≤ 10) (hl : LB (nd p + 2) j X Y) : IlOk X ((nd p + 2 : Nat) : Int) Y := by
  have hp := p_nd h
  have hjq : (j : Rat) ≤ 10 := by
    have : ((j : Nat) : Rat) ≤ ((10 : Nat) : Rat) := by exact_mod_cast hj
    exact this
  have hj0 : (0 : Rat) ≤ j := Rat.natCast_nonneg
  refine ilok (B := 93 / 100 * j) hY (Int.lt_of_le_of_lt hYp h.2.1) (by omega) (by omega) (by grind) (by grind) ?_ hl.1 hl.2
  have hm := nd_mono hY hYp
  obtain ⟨i, hi⟩ := Nat.le.dest hm
  have e1 : (10 : Rat) ^ (nd p + 2) = 10 ^ nd Y * (10 ^ i * 100) := by
    rw [ten_add, ← hi, ten_add, show (10 : Rat) ^ 2 = 100 by decide +kernel]; grind
  rw [e1]
  have q1 := tenq_pos (nd Y)
  have q2 : (1 : Rat) ≤ 10 ^ i := by
    have := Rat.intCast_le_intCast.mpr (show (1 : Int) ≤ 10 ^ i by have := ten_k' i; omega)
    rwa [cast_ten] at this
  have k1 := Rat.mul_nonneg (Rat.le_of_lt q1) (show (0 : Rat) ≤ 10 - j by grind)
  have k2 := Rat.mul_nonneg (Rat.le_of_lt q1) (show (0 : Rat) ≤ 10 ^ i - 1 by grind)
  grind
theorem lb_add {k j : Nat} (hl : LB k j X Y) (ha : 0 < a) (ht : Lg (((r : Rat) - 93 / 100) / 10 ^ k) a ∧ Ug (((r : Rat) + 93 / 100) / 10 ^ k) a) : LB k (j + 1) (X + r) (Y * a) := by
  have hk := tenq_pos k
  have l := Lg.add hl.1 ht.1
  have u := Ug.add (show (0 : Rat) < a by exact_mod_cast ha) hl.2 ht.2
  unfold LB
  rw [Rat.intCast_mul, Rat.intCast_add]
  push_cast
  have a1 : (10 : Rat) ^ k ≠ 0 := by grind
  constructor
  · refine l.mono ?_ Rat.le_refl
    refine rdiv_le hk ?_
    have : (((X : Rat) - 93 / 100 * j) / 10 ^ k + ((r : Rat) - 93 / 100) / 10 ^ k) * 10 ^ k = (X : Rat) - 93 / 100 * j + (r - 93 / 100) := by
      generalize (10 : Rat) ^ k = m at *
      grind
    rw [this]; grind
  · refine u.mono ?_ Rat.le_refl
    refine le_rdiv hk ?_
    have : (((X : Rat) + 93 / 100 * j) / 10 ^ k + ((r : Rat) + 93 / 100) / 10 ^ k) * 10 ^ k = (X : Rat) + 93 / 100 * j + (r + 93 / 100) := by
      generalize (10 : Rat) ^ k = m at *
      grind
    rw [this]; grind
theorem lb_sub {k j : Nat} (hl : LB k j X (a * Y)) (ha : 0 < a) (hY : 0 < Y) (ht : Lg (((r : Rat) - 93 / 100) / 10 ^ k) a ∧ Ug (((r : Rat) + 93 / 100) / 10 ^ k) a) : LB k (j + 1) (X - r) Y := by
  have hk := tenq_pos k
  have haq : (0 : Rat) < a := by exact_mod_cast ha
  have l := Lg.add hl.1 (ht.2.inv haq)
  have u := Ug.add (Rat.inv_pos.mpr haq) hl.2 (ht.1.inv haq)
  rw [Rat.intCast_mul] at l u
  have e0 : (a : Rat) * Y * (a : Rat)⁻¹ = Y := by
    have : (a : Rat) ≠ 0 := by grind
    grind
  rw [e0] at l u
  unfold LB
  rw [Rat.intCast_sub]
  push_cast
  have a1 : (10 : Rat) ^ k ≠ 0 := by grind
  constructor
  · refine l.mono ?_ Rat.le_refl
    refine rdiv_le hk ?_
    have : (((X : Rat) - 93 / 100 * j) / 10 ^ k + -(((r : Rat) + 93 / 100) / 10 ^ k)) * 10 ^ k = (X : Rat) - 93 / 100 * j - (r + 93 / 100) := by
      generalize (10 : Rat) ^ k = m at *
      grind
    rw [this]; grind
  · refine u.mono ?_ Rat.le_refl
    refine le_rdiv hk ?_
    have : (((X : Rat) + 93 / 100 * j) / 10 ^ k + -(((r : Rat) - 93 / 100) / 10 ^ k)) * 10 ^ k = (X : Rat) + 93 / 100 * j - (r - 93 / 100) := by
      generalize (10 : Rat) ^ k = m at *
      grind
    rw [this]; grind
/-! the loop that adds -/
theorem P2_start : P2 p ds [] 0 1 := by
  refine ⟨⟨ds, rfl⟩, rfl, ?_⟩
  have hk := tenq_pos (nd p + 2)
  refine ⟨Lg.zero.mono (rdiv_le hk ?_) ?_, Ug.zero.mono (le_rdiv hk ?_) ?_⟩ <;> simp <;> grind
theorem P2_new (hP : P2 p ds pre X Y) (e : ds = pre ++ tpl a b :: post) (h : P6 ds p) (hr : IsDlog (nd p + 2 + 2) a 0 r) : P2 p ds (pre ++ [tpl a b]) (X + r) (Y * a) := by
  obtain ⟨h1, h2, _⟩ := P6_el h e
  have hp := p_nd h
  refine ⟨⟨post, by rw [e]; simp⟩, ?_, ?_⟩
  · rw [prodD_append, ← hP.2.1]; simp [prodD, dn]
  · rw [List.length_append, List.length_singleton]
    exact lb_add hP.2.2 (by omega) (told1 (by omega) (by omega) h1 h2 hr)
theorem P2_isl (hP : P2 p ds pre X Y) (h : P6 ds p) : IlOk X ((nd p + 2 : Nat) : Int) Y := by
  obtain ⟨⟨post, e⟩, hY, hl⟩ := hP
  have k := prod_parts h e
  have := tpl_len h e
  exact lb_isl h (by omega) (by omega) (by omega) hl
/-! the loop that takes away -/
theorem P3_start (hP : P2 p ds ds X Y) (h : P6 ds p) : P3 p ds [] X Y := by
  have hk := tenq_pos (nd p + 2)
  have hl5 : (ds.length : Rat) ≤ 5 := by
    have : ((ds.length : Nat) : Rat) ≤ ((5 : Nat) : Rat) := by exact_mod_cast h.2.2.2.1
    exact this
  refine ⟨ds, rfl, hP.2.1, hP.2.2.1.mono ?_ Rat.le_refl, hP.2.2.2.mono ?_ Rat.le_refl⟩
  · refine rdiv_le hk ?_
    rw [fld3 hk]; push_cast; simp; grind
  · refine rdiv_le hk ?_
    rw [fld3 hk]; push_cast; simp; grind
theorem P3_new (hP : P3 p ds pre X Y) (e : ds = pre ++ tpl a b :: post) (h : P6 ds p) (hr : IsDlog (nd p + 2 + 2) (a * 10 ^ b.toNat) (-b) r) : P3 p ds (pre ++ [tpl a b]) (X - r) (Y.fdiv a) := by
  obtain ⟨h1, h2, h3, h4⟩ := P6_el h e
  have hp := p_nd h
  obtain ⟨post', e', hY, hl⟩ := hP
  have e2 : post' = tpl a b :: post := List.append_cancel_left (e' ▸ e : pre ++ post' = pre ++ tpl a b :: post)
  subst e2
  have eY : Y = a * prodD post := hY
  have pp := prod_parts h (show ds = (pre ++ [tpl a b]) ++ post by rw [e]; simp)
  have ed : Y.fdiv a = prodD post := by
    rw [Int.fdiv_eq_ediv_of_nonneg _ (by omega), eY, Int.mul_ediv_cancel_left _ (by omega)]
  rw [ed]
  refine ⟨post, by rw [e]; simp, rfl, ?_⟩
  rw [List.length_append, List.length_singleton]
  rw [eY] at hl
  exact lb_sub hl (by omega) (by omega) (told2 (by omega) (by omega) h1 h2 h3 h4 hr)
theorem P3_isl (hP : P3 p ds pre X Y) (h : P6 ds p) : IlOk X ((nd p + 2 : Nat) : Int) Y := by
  obtain ⟨post, e, hY, hl⟩ := hP
  have k := prod_parts h e
  have := tpl_len h e
  exact lb_isl h (by omega) (by omega) (by omega) hl
/-! powers and roots -/
theorem l4a (h1 : 2 ≤ a) (h2 : a ≤ 1000000) (h3 : 2 ≤ b) (h4 : b ≤ 4) (hr : IsDlog (nd (a ^ b.toNat) + 1 + 2) a 0 r) : IlOk (b * r) ((nd (a ^ b.toNat) + 1 : Nat) : Int) (a ^ b.toNat) := by
  obtain ⟨q1, q2, q3, q4⟩ := pow_nd h1 h2 h3 h4
  have hp := nd_pos (a ^ b.toNat) (by omega)
  have t := told1 (by omega) (by omega) h1 h2 hr
  have haq : (0 : Rat) < a := by exact_mod_cast (show 0 < a by omega)
  have l := Lg.pow t.1 b.toNat
  have u := Ug.pow haq t.2 b.toNat
  have eb : ((b.toNat : Nat) : Rat) = (b : Rat) := by
    rw [← Rat.intCast_natCast]; congr 1; omega
  have e : ((a ^ b.toNat : Int) : Rat) = (a : Rat) ^ b.toNat := Rat.intCast_pow ..
  rw [eb] at l u
  have hk := tenq_pos (nd (a ^ b.toNat) + 1)
  have b4 : (b : Rat) ≤ 4 := by
    have := Rat.intCast_le_intCast.mpr h4
    exact this
  have b2 : (2 : Rat) ≤ b := by
    have := Rat.intCast_le_intCast.mpr h3
    exact this
  refine ilok (B := 93 / 100 * b) q1 (by have : (10 : Int) ^ 24 < 10 ^ 36 := by decide
                                         omega) (by omega) (by omega) (by grind) (by grind) ?_ ?_ ?_
  · rw [ten_add, show (10 : Rat) ^ 1 = 10 by decide +kernel]
    have q5 := tenq_pos (nd (a ^ b.toNat))
    have := Rat.mul_nonneg (Rat.le_of_lt q5) (show (0 : Rat) ≤ 4 - b by grind)
    grind
  · rw [e, Rat.intCast_mul]
    refine l.mono ?_ Rat.le_refl
    refine rdiv_le hk ?_
    have : (b : Rat) * (((r : Rat) - 93 / 100) / 10 ^ (nd (a ^ b.toNat) + 1)) * 10 ^ (nd (a ^ b.toNat) + 1) = b * (r - 93 / 100) := by
      generalize (10 : Rat) ^ (nd (a ^ b.toNat) + 1) = m at *
      have : m ≠ 0 := by grind
      grind
    rw [this]; grind
  · rw [e, Rat.intCast_mul]
    refine u.mono ?_ Rat.le_refl
    refine le_rdiv hk ?_
    have : (b : Rat) * (((r : Rat) + 93 / 100) / 10 ^ (nd (a ^ b.toNat) + 1)) * 10 ^ (nd (a ^ b.toNat) + 1) = b * (r + 93 / 100) := by
      generalize (10 : Rat) ^ (nd (a ^ b.toNat) + 1) = m at *
      have : m ≠ 0 := by grind
      grind
    rw [this]; grind
theorem l4b (h1 : 2 ≤ a) (h2 : a ≤ 1000000) (h3 : 2 ≤ b) (h4 : b ≤ 4) (hr : IsDlog (nd a + 1 + 2) (a ^ b.toNat) 0 r) : IlOk (divN r b) ((nd a + 1 : Nat) : Int) a := by
  have hn := a_nd h1 h2
  have hp := nd_pos a (by omega)
  have t := told4 (by omega) (by omega) h1 h2 h3 h4 hr
  have ha1 : (1 : Rat) ≤ a := by exact_mod_cast (show 1 ≤ a by omega)
  have l := Lg.root ha1 (by omega) t.1
  have u := Ug.root ha1 (by omega) t.2
  have eb : ((b.toNat : Nat) : Rat) = (b : Rat) := by
    rw [← Rat.intCast_natCast]; congr 1; omega
  rw [eb] at l u
  have hk := tenq_pos (nd a + 1)
  have b2 : (2 : Rat) ≤ b := by
    have := Rat.intCast_le_intCast.mpr h3
    exact this
  have d := divN_rat r (b := b) (by omega)
  have hb1 : 1 / (b : Rat) ≤ 1 / 2 := rdiv_le (by grind) (by grind)
  refine ilok (B := 97 / 100) (by omega) (by have : (1000000 : Int) < 10 ^ 36 := by decide
                                             omega) (by omega) (by omega) (by grind) (by grind) ?_ ?_ ?_
  · rw [ten_add, show (10 : Rat) ^ 1 = 10 by decide +kernel]
    have q5 := tenq_pos (nd a)
    grind
  · refine l.mono ?_ Rat.le_refl
    refine rdiv_le hk ?_
    have : ((r : Rat) - 93 / 100) / 10 ^ (nd a + 1) / b * 10 ^ (nd a + 1) = r / b - 93 / 100 * (1 / b) := by
      generalize (10 : Rat) ^ (nd a + 1) = m at *
      have : m ≠ 0 := by grind
      have : (b : Rat) ≠ 0 := by grind
      grind
    rw [this]
    generalize (1 : Rat) / b = i at *
    grind
  · refine u.mono ?_ Rat.le_refl
    refine le_rdiv hk ?_
    have : ((r : Rat) + 93 / 100) / 10 ^ (nd a + 1) / b * 10 ^ (nd a + 1) = r / b + 93 / 100 * (1 / b) := by
      generalize (10 : Rat) ^ (nd a + 1) = m at *
      have : m ≠ 0 := by grind
      have : (b : Rat) ≠ 0 := by grind
      grind
    rw [this]
    generalize (1 : Rat) / b = i at *
    grind
end
end Mine

end
section
open PySem PySem.W PySem.Calls PyProof.Rows PyProof.V PySem.Spec
section
namespace Mine
theorem fr_skip {stored : List Str} {a z : Str} {v r x : Option Value} (h1 : stored.contains z = false) (h : x = r) (ha : stored.contains a = true) : (if z = a then v else x) = r := by
  rw [if_neg]
  · exact h
  · intro e
    rw [e, ha] at h1
    exact absurd h1 (by decide)
theorem fr_last {stored : List Str} {z : Str} {u x : Option Value} (h1 : stored.contains z = false) : (if stored.contains z = true then u else x) = x := by
  rw [h1]; rfl
end Mine
end
end
section
open PySem PySem.W PySem.Calls PyProof.Rows PyProof.V PySem.Spec
namespace Mine
theorem fr_ne {a z : Str} {v r x : Option Value} (h : z ≠ a) (hx : x = r) : (if z = a then v else x) = r := by
  rw [if_neg h]; exact hx
theorem d6n {k : Nat} : ((k : Nat) : Int) + 2 = ((k + 2 : Nat) : Int) := by omega
section
variable {prog : Program} {w : World} {A : Around} {E : Value → Shared → Prop} {s : Shared} {env : Env} {h₀ : Heap} {target : Expr} {body : List Stmt} {Q : Flow → Shared → Prop}
variable {ax : Addr} {lo : Obj} {vs : List Value} {ds : List Dat} {n : Nat} {m₀ : Str → Option Value} {news nw : List (Addr × Obj)} {p : Int}
theorem P6_sh (h6 : P6 ds p) : ∀ d ∈ ds, ∃ a b : Int, d = Dat.tuple [Dat.int a, Dat.int b] := fun d hd => let ⟨a, b, e, _⟩ := h6.2.2.2.2 d hd; ⟨a, b, e⟩
abbrev Fr2 (m₀ : Str → Option Value) (X Y : Int) (tx ty : Tok) (u : Str → Option Value) : Str → Option Value := fun y => if y = Str.ofString "log" then some (.int X tx) else if y = Str.ofString "size" then some (.int Y ty) else if [Str.ofString "n", Str.ofString "m"].contains y then u y else m₀ y
theorem tn6a {ta₀ tb₀ : Tok} (hh : A.handled = none) (F : Fr h₀ env.locals s.heap m₀) (N : News h₀ env.locals s.heap news) (hm : (ax, lo) ∈ news) (hc : lo.cls = .type "list") (hdt : lo.data = .seq vs.toArray n)
    (hd : DatAll nw vs ds) (hsub : ∀ q ∈ nw, q ∈ news) (h6 : P6 ds p) (h1 : m₀ (Str.ofString "log") = some (.int 0 ta₀)) (h2 : m₀ (Str.ofString "size") = some (.int 1 tb₀))
    (turn : ∀ (pre post : List Dat) (a b : Int) (ta tb : Tok) (T : Addr) (nT : Nat) (X Y : Int) (tx ty : Tok) (u : Str → Option Value) (h : Heap) (tk : Nat) (r : List (Addr × Obj)), ds = pre ++ tpl a b :: post → P2 p ds pre X Y → 2 ≤ a → a ≤ 1000000 → 2 ≤ b → b ≤ 4 →
      Fr h₀ env.locals h (Fr2 m₀ X Y tx ty u) → News h₀ env.locals h ((T, tupN [.int a ta, .int b tb] nT) :: r) →
      wpAny (model prog w) A (assign target env (.ref T)) (fun _ s₂ => wpAny (model prog w) A (execs body env) (TnPost h₀ env.locals r (fun m => ∃ X Y tx ty, P2 p ds (pre ++ [tpl a b]) X Y ∧ m (Str.ofString "log") = some (.int X tx) ∧ m (Str.ofString "size") = some (.int Y ty) ∧ ∀ z, z ≠ Str.ofString "log" → z ≠ Str.ofString "size" → [Str.ofString "n", Str.ofString "m"].contains z = false → m z = m₀ z) { s with heap := h, toks := tk } Q) E s₂) E { s with heap := h, toks := tk })
    (done : ∀ (X Y : Int) (tx ty : Tok) (u : Str → Option Value) (h : Heap) (tk : Nat), P2 p ds ds X Y → Fr h₀ env.locals h (Fr2 m₀ X Y tx ty u) → News h₀ env.locals h news → Q .next { s with heap := h, toks := tk }) :
    wpAny (model prog w) A (pyIter (.ref ax)) (fun it s₂ => TurnsAt prog w A h₀ env target body Q E it s₂) E s :=
  tn2 (Str.ofString "log") (Str.ofString "size") [Str.ofString "n", Str.ofString "m"] (fun pre X Y => P2 p ds pre X Y) hh F N hm hc hdt (hd.mono hsub) (P6_sh h6) h1 h2 P2_start
    (fun pre post a b ta tb T nT X Y tx ty u h tk r e hP F N => let ⟨x1, x2, x3, x4⟩ := P6_el h6 e; turn pre post a b ta tb T nT X Y tx ty u h tk r e hP x1 x2 x3 x4 F N) done
theorem tn6b {X₀ Y₀ : Int} {ta₀ tb₀ : Tok} (hh : A.handled = none) (F : Fr h₀ env.locals s.heap m₀) (N : News h₀ env.locals s.heap news) (hm : (ax, lo) ∈ news) (hc : lo.cls = .type "list") (hdt : lo.data = .seq vs.toArray n)
    (hd : DatAll nw vs ds) (hsub : ∀ q ∈ nw, q ∈ news) (h6 : P6 ds p) (h1 : m₀ (Str.ofString "log") = some (.int X₀ ta₀)) (h2 : m₀ (Str.ofString "size") = some (.int Y₀ tb₀)) (hP2 : P2 p ds ds X₀ Y₀)
    (turn : ∀ (pre post : List Dat) (a b : Int) (ta tb : Tok) (T : Addr) (nT : Nat) (X Y : Int) (tx ty : Tok) (u : Str → Option Value) (h : Heap) (tk : Nat) (r : List (Addr × Obj)), ds = pre ++ tpl a b :: post → P3 p ds pre X Y → 2 ≤ a → a ≤ 1000000 → 2 ≤ b → b ≤ 4 →
      Fr h₀ env.locals h (Fr2 m₀ X Y tx ty u) → News h₀ env.locals h ((T, tupN [.int a ta, .int b tb] nT) :: r) →
      wpAny (model prog w) A (assign target env (.ref T)) (fun _ s₂ => wpAny (model prog w) A (execs body env) (TnPost h₀ env.locals r (fun m => ∃ X Y tx ty, P3 p ds (pre ++ [tpl a b]) X Y ∧ m (Str.ofString "log") = some (.int X tx) ∧ m (Str.ofString "size") = some (.int Y ty) ∧ ∀ z, z ≠ Str.ofString "log" → z ≠ Str.ofString "size" → [Str.ofString "n", Str.ofString "m"].contains z = false → m z = m₀ z) { s with heap := h, toks := tk } Q) E s₂) E { s with heap := h, toks := tk })
    (done : ∀ (X Y : Int) (tx ty : Tok) (u : Str → Option Value) (h : Heap) (tk : Nat), Fr h₀ env.locals h (Fr2 m₀ X Y tx ty u) → News h₀ env.locals h news → Q .next { s with heap := h, toks := tk }) :
    wpAny (model prog w) A (pyIter (.ref ax)) (fun it s₂ => TurnsAt prog w A h₀ env target body Q E it s₂) E s :=
  tn2 (Str.ofString "log") (Str.ofString "size") [Str.ofString "n", Str.ofString "m"] (fun pre X Y => P3 p ds pre X Y) hh F N hm hc hdt (hd.mono hsub) (P6_sh h6) h1 h2 (P3_start hP2 h6)
    (fun pre post a b ta tb T nT X Y tx ty u h tk r e hP F N => let ⟨x1, x2, x3, x4⟩ := P6_el h6 e; turn pre post a b ta tb T nT X Y tx ty u h tk r e hP x1 x2 x3 x4 F N) fun X Y tx ty u h tk _ F N => done X Y tx ty u h tk F N
theorem tn6c (hh : A.handled = none) (F : Fr h₀ env.locals s.heap m₀) (N : News h₀ env.locals s.heap news) (hm : (ax, lo) ∈ news) (hc : lo.cls = .type "list") (hdt : lo.data = .seq vs.toArray n)
    (hd : DatAll nw vs ds) (hsub : ∀ q ∈ nw, q ∈ news) (h6 : P6 ds p)
    (turn : ∀ (pre post : List Dat) (a b : Int) (ta tb : Tok) (T : Addr) (nT : Nat) (u : Str → Option Value) (h : Heap) (tk : Nat) (r : List (Addr × Obj)), 2 ≤ a → a ≤ 1000000 → 2 ≤ b → b ≤ 4 →
      Fr h₀ env.locals h (fun y => if [Str.ofString "n", Str.ofString "m", Str.ofString "places"].contains y then u y else m₀ y) → News h₀ env.locals h ((T, tupN [.int a ta, .int b tb] nT) :: r) →
      wpAny (model prog w) A (assign target env (.ref T)) (fun _ s₂ => wpAny (model prog w) A (execs body env) (TnPost h₀ env.locals r (fun m => ∀ z, [Str.ofString "n", Str.ofString "m", Str.ofString "places"].contains z = false → m z = m₀ z) { s with heap := h, toks := tk } Q) E s₂) E { s with heap := h, toks := tk })
    (done : ∀ (u : Str → Option Value) (h : Heap) (tk : Nat), Fr h₀ env.locals h (fun y => if [Str.ofString "n", Str.ofString "m", Str.ofString "places"].contains y then u y else m₀ y) → News h₀ env.locals h news → Q .next { s with heap := h, toks := tk }) :
    wpAny (model prog w) A (pyIter (.ref ax)) (fun it s₂ => TurnsAt prog w A h₀ env target body Q E it s₂) E s :=
  tn0 [Str.ofString "n", Str.ofString "m", Str.ofString "places"] hh F N hm hc hdt (hd.mono hsub) (P6_sh h6)
    (fun pre post a b ta tb T nT u h tk r e F N => let ⟨x1, x2, x3, x4⟩ := P6_el h6 e; turn pre post a b ta tb T nT u h tk r x1 x2 x3 x4 F N) done
end
theorem y_fit {ds pre : List Dat} {p X Y : Int} (hP : P2 p ds pre X Y) (h : P6 ds p) : Fit 200 Y := by
  obtain ⟨⟨post, e⟩, hY, _⟩ := hP
  have k := prod_parts h e
  exact Fit.of_le (p6_fit h) (by omega) (by omega)
theorem pw_fit {a b : Int} (h1 : 2 ≤ a) (h2 : a ≤ 1000000) (hb1 : 2 ≤ b) (hb2 : b ≤ 4) : Fit 200 (a ^ b.toNat) := by
  obtain ⟨q1, q2, q3, q4⟩ := pow_nd h1 h2 hb1 hb2
  have e : Fit 200 ((10 : Int) ^ 24) := by unfold Fit; decide +kernel
  exact Fit.of_le e (by omega) q2
theorem tb_fit {b : Int} (hb1 : 2 ≤ b) (hb2 : b ≤ 4) : Fit 20 ((10 : Int) ^ b.toNat) := by
  have := b_ten hb1 hb2
  exact Fit.small (by omega) (by omega)
end Mine
namespace Mine
open PySem PySem.W
section
variable {ds : List Dat} {p a b : Int}
theorem dlokA (h6 : P6 ds p) (h1 : 2 ≤ a) (h2 : a ≤ 1000000) : DlOk (nd p + 2 + 2) a 0 := dlok1 (by omega) (by have := (p_nd h6).1; omega) h1 h2
theorem dlokB (h6 : P6 ds p) (h1 : 2 ≤ a) (h2 : a ≤ 1000000) (h3 : 2 ≤ b) (h4 : b ≤ 4) : DlOk (nd p + 2 + 2) (a * 10 ^ b.toNat) (-b) := dlok2 (by omega) (by have := (p_nd h6).1; omega) h1 h2 h3 h4
theorem dlokC (h1 : 2 ≤ a) (h2 : a ≤ 1000000) (h3 : 2 ≤ b) (h4 : b ≤ 4) : DlOk (nd (a ^ b.toNat) + 1 + 2) a 0 := dlok1 (by omega) (by have := (pow_nd h1 h2 h3 h4).2.2.1; omega) h1 h2
theorem dlokD (h1 : 2 ≤ a) (h2 : a ≤ 1000000) (h3 : 2 ≤ b) (h4 : b ≤ 4) : DlOk (nd a + 1 + 2) (a ^ b.toNat) 0 := dlok4 (by omega) (by have := a_nd h1 h2; omega) h1 h2 h3 h4
end
end Mine

end
section
open PySem PySem.W PyProof.Rows
open_top hd for PySem.Challenge.rw_dm0271_06
namespace Mine
section
abbrev CI (w : World) (mean : ExcName → Option Value) (mg mb : Str → Option Value) (d : Nat) (f : Addr) (vs : List Value) (P : Int → Prop) : Prop :=
  ConI PySem.Challenge.rw_dm0271_06.row.prog w (hd.heap_39 w.params) hd.view_39 (looseW hd.view_39 [Str.ofString "_nbits", Str.ofString "_ilog", Str.ofString "_log10_digits", Str.ofString "_iexp"]) mean mg mb d f vs P
abbrev CX (w : World) (mean : ExcName → Option Value) (mg mb : Str → Option Value) (d : Nat) (f : Addr) (vs : List Value) (r : Int) : Prop :=
  ConX PySem.Challenge.rw_dm0271_06.row.prog w (hd.heap_39 w.params) hd.view_39 (looseW hd.view_39 [Str.ofString "_nbits", Str.ofString "_ilog", Str.ofString "_log10_digits", Str.ofString "_iexp"]) mean mg mb d f vs r
local macro_rules | `(tactic| walk_at "call builtin:divmod") => `(tactic| k_extra "call builtin:divmod ~1")
local macro_rules | `(tactic| walk_at "binaryOp FloorDiv int int") => `(tactic| k_extra "binaryOp FloorDiv int int ~2")
theorem con_div (w : World) (mean) (mg mb) (a b : Int) (ta tb : Tok) (hb : 0 < b) (hf : Fit 9000 b) : CX w mean mg mb 1 35 [.int a ta, .int b tb] (divN a b) := by
  unfold CX ConX
  k_fill
  intros; rename_i hret
  refine wpAny_call ?_
  w_on
  k_with_none
  k_with "call builtin:divmod ~1" => (((with_reducible show wpAny _ _ (call (Value.builtin _) [Value.int _ _, Value.int _ _]) _ _ _); refine divmod_N (by assumption) (by assumption) (by omega) ?_ (Or.inl (Fit.noPylong (by assumption) (by decide))); intro _ _ _))
  k_with "binaryOp FloorDiv int int ~2" => (((with_reducible show wpAny _ _ (binaryOp Operator.FloorDiv (Value.int _ _) (Value.int _ _)) _ _ _); (refine floordiv_int ?m1 ?_ (Or.inl (Fit.noPylong (n := 9000) ?m2 (by decide))); (case m1 => omega); (case m2 => first | assumption | k_extra "fit"))))
  k_dflt cell_enter
  k_steps
  · exact con_retX hret (divN_walk hb) (by assumption) (by assumption) (by intro p hp; simp [hp])
theorem con_rsh (w : World) (mean) (mg mb) (x n : Int) (tx tn : Tok) (hn : 0 ≤ n) (hn2 : n ≤ 100) : CX w mean mg mb 1 28 [.int x tx, .int n tn] (divN x (2 ^ n.toNat)) := by
  unfold CX ConX
  k_fill
  intros; rename_i hret
  refine wpAny_call ?_
  w_on
  k_with_none
  k_with "call builtin:divmod ~1" => (((with_reducible show wpAny _ _ (call (Value.builtin _) [Value.int _ _, Value.int _ _]) _ _ _); refine divmod_N (by assumption) (by assumption) (by omega) ?_ (Or.inl (Fit.noPylong (by assumption) (by decide))); intro _ _ _))
  k_with "binaryOp FloorDiv int int ~2" => (((with_reducible show wpAny _ _ (binaryOp Operator.FloorDiv (Value.int _ _) (Value.int _ _)) _ _ _); (refine floordiv_int ?m1 ?_ (Or.inl (Fit.noPylong (n := 9000) ?m2 (by decide))); (case m1 => omega); (case m2 => first | assumption | k_extra "fit"))))
  k_dflt cell_enter
  k_steps
  · exact con_retX hret rshN_walk (by assumption) (by assumption) (by intro p hp; simp [hp])
theorem con_sq (w : World) (mean) (mg mb) (n z : Int) (tn tz : Tok) (hn : 0 < n) (hz : 0 < z) (hf : Fit 9000 (z + n)) : CI w mean mg mb 1 21 [.int n tn, .int z tz] (IsSq n) := by
  unfold CI ConI
  k_fill
  intros; rename_i hret
  refine wpAny_call ?_
  w_on
  k_with_none
  k_with "call builtin:divmod ~1" => (((with_reducible show wpAny _ _ (call (Value.builtin _) [Value.int _ _, Value.int _ _]) _ _ _); refine divmod_N (by assumption) (by assumption) (by omega) ?_ (Or.inl (Fit.noPylong (by assumption) (by decide))); intro _ _ _))
  k_with "binaryOp FloorDiv int int ~2" => (((with_reducible show wpAny _ _ (binaryOp Operator.FloorDiv (Value.int _ _) (Value.int _ _)) _ _ _); (refine floordiv_int ?m1 ?_ (Or.inl (Fit.noPylong (n := 9000) ?m2 (by decide))); (case m1 => omega); (case m2 => first | assumption | k_extra "fit"))))
  k_dflt cell_enter
  k_with "exec While Compare cons nil" => k_while (fun _ b a => 0 < a ∧ a ≤ z + n ∧ (b = 0 ∨ (0 < b ∧ a = sqStep n b))) (fun _ b a => sqMeas n b a) "b" "a"
  k_with "state" => exact sq_turn hn hz (by assumption) (by assumption)
  k_with "measure" => exact sq_meas hn (by assumption) (by assumption)
  k_with "fit" => exact Fit.of_le hf (by omega) (by omega)
  k_steps
  · exact con_retI hret (sq_out (by assumption) (by assumption) (by assumption)) (by assumption) (by assumption) (by intro p hp; simp [hp])

end
section
local macro_rules | `(tactic| walk_at "call type:int") => `(tactic| k_extra "call type:int ~3")
theorem con_dig (w : World) (mean) (mg mb) (p : Int) (tp : Tok) (h0 : 0 ≤ p) (h1 : p ≤ 46) : CX w mean mg mb 1 82 [.int p tp] (l10 p.toNat) := by
  unfold CX ConX
  k_fill
  intros; rename_i hret
  refine wpAny_call ?_
  refine method_call (top_meth (by assumption) (by assumption) rfl) ?_
  w_on
  k_with_none
  k_with "call type:int ~3" => (((with_reducible show wpAny _ _ (call (Value.type "int") [Value.str _ _]) _ _ _); refine KIN.call_text (dig_text (by assumption) (by assumption)) (Nat.le_trans (dig_len (by assumption) (by assumption)) (by decide)) ?_))
  k_dflt cell_enter
  k_steps
  · exact con_retX hret rfl (by assumption) (by assumption) (by intro p hp; simp [hp])

end
section
local macro_rules | `(tactic| walk_at "binaryOp FloorDiv int int") => `(tactic| k_extra "binaryOp FloorDiv int int ~4")
local macro_rules | `(tactic| walk_at "binaryOp Mult int int") => `(tactic| k_extra "binaryOp Mult int int ~5")
local macro_rules | `(tactic| walk_at "binaryOp LShift int int") => `(tactic| k_extra "binaryOp LShift int int ~6")
local macro_rules | `(tactic| walk_at "call type:str") => `(tactic| k_extra "call type:str ~7")
local macro_rules | `(tactic| walk_at "call builtin:len") => `(tactic| k_extra "call builtin:len ~8")
local macro_rules | `(tactic| walk_at "call ref") => `(tactic| k_extra "call ref ~9")
section
local macro_rules | `(tactic| walk_at "exec While") => `(tactic| k_extra "exec While ~10")
theorem con_ilog (w : World) (mean) (mg mb) (p : Nat) (x M : Int) (tx tM : Tok) (hM : M = 10 ^ p) (hp : p ≤ 1000) (hM0 : 0 < M) (hMf : Fit 1500 (20 * M))
   (hR : RedOk x M) : CI w mean mg mb 2 43 [.int x tx, .int M tM] (IsIlog p x M) := by
  unfold CI ConI
  k_fill
  intros; rename_i hret
  refine wpAny_call ?_
  w_on
  k_with_none
  k_with "binaryOp FloorDiv int int ~4" => (((with_reducible show wpAny _ _ (binaryOp Operator.FloorDiv (Value.int _ _) (Value.int _ _)) _ _ _); (refine floordiv_int ?m1 ?_ (Or.inl (Fit.noPylong (n := 9000) ?m2 (by decide))); (case m1 => first | omega | k_extra "ne"); (case m2 => first | assumption | k_extra "fit"))))
  k_with "binaryOp Mult int int ~5" => (((with_reducible show wpAny _ _ (binaryOp Operator.Mult (Value.int _ _) (Value.int _ _)) _ _ _); (with_reducible refine mul_int ?_ ?m1); (case m1 => k_extra "mul")))
  k_with "binaryOp LShift int int ~6" => (((with_reducible show wpAny _ _ (binaryOp Operator.LShift (Value.int _ _) (Value.int _ _)) _ _ _); (with_reducible refine lshift_int ?m1 ?m2 ?_); (case m1 => omega); (case m2 => k_extra "shl")))
  k_with "call type:str ~7" => (((with_reducible show wpAny _ _ (call (Value.type "str") [Value.int _ _]) _ _ _); (refine P.str_of_int ?m1 ?_); (case m1 => k_extra "str")))
  k_with "call builtin:len ~8" => (((with_reducible show wpAny _ _ (call (Value.builtin "len") [Value.str _ _]) _ _ _); (refine P.len_str ?m1 ?_); (case m1 => k_extra "len")))
  k_with "call ref ~9" => ((k_here; k_dflt (first
      | (refine' con_div _ _ _ _ _ _ _ _ ?p1 ?p2 _ _ _ _ _ _ _ _ _ _ _ _ _ _ _ _ _ _ ?k1 ?k2 ?k3 ?k4 ?k5 ?kK ?kd ?ku ?_; (case p1 => first | omega | k_extra "pos"); (case p2 => first | assumption | k_extra "fit"); (case k1 => k_asm); (case k2 => k_asm); (case k3 => k_asm); (case k4 => k_asm); (case k5 => k_asm); (case kK => first | exact rfl | assumption); (case kd => ktr_room); (case ku => ktr_units); intro t9 h9 tk9 F9 N9; (try dsimp only); (try k_fold))
      | (refine' con_rsh _ _ _ _ _ _ _ _ ?p1 ?p2 _ _ _ _ _ _ _ _ _ _ _ _ _ _ _ _ _ _ ?k1 ?k2 ?k3 ?k4 ?k5 ?kK ?kd ?ku ?_; (case p1 => omega); (case p2 => omega); (case k1 => k_asm); (case k2 => k_asm); (case k3 => k_asm); (case k4 => k_asm); (case k5 => k_asm); (case kK => first | exact rfl | assumption); (case kd => ktr_room); (case ku => ktr_units); intro t9 h9 tk9 F9 N9; (try dsimp only); (try k_fold))
      | (refine' con_sq _ _ _ _ _ _ _ _ ?p1 ?p2 ?p3 _ _ _ _ _ _ _ _ _ _ _ _ _ _ _ _ _ _ ?k1 ?k2 ?k3 ?k4 ?k5 ?kK ?kd ?ku ?_; (case p1 => first | omega | k_extra "pos"); (case p2 => first | omega | k_extra "pos"); (case p3 => first | assumption | k_extra "fit"); (case k1 => k_asm); (case k2 => k_asm); (case k3 => k_asm); (case k4 => k_asm); (case k5 => k_asm); (case kK => first | exact rfl | assumption); (case kd => ktr_room); (case ku => ktr_units); intro r9 t9 h9 tk9 P9 F9 N9; (try dsimp only); (try k_fold)))))
  k_with "exec While ~10" => (k_extra "my while")
  k_dflt ((refine' code_def ?k1 ?k2 ?k3 ?k4 ?k5 ?kA ?kF ?kK ?k6 ?k7 ?k8 ?k9 ?kB ?_ ?c2 ?c3 ?c4 ?c5; (case kA => exact rfl); (case kF => exact rfl); (case kK => assumption); (case k1 => k_asm); (case k2 => k_asm); (case k3 => k_asm); (case k4 => k_asm); (case k5 => k_asm); (case k6 => k_is); (case k7 => k_is); (case k8 => ktr_room); (case k9 => first | exact BindsTo.of_eq rfl | exact binds_K (by k_in) rfl (by k_is) rfl rfl rfl); (case c5 => decide); (case kB => exact locs rfl); (case c2 => exact rfl); (case c3 => exact rfl); (case c4 => exact rfl); k_whole; intro g' L' h' FG' F' N' B' X' T'; (try dsimp only); (try k_lift B'); (try k_fold)))
  k_with "my while" => k_while (fun _ y R => 0 ≤ R ∧ R ≤ 14 ∧ -(10 * M) ≤ y ∧ y ≤ 10 * M ∧ 0 < M + divN y (2 ^ R.toNat) ∧ RedTo x M R.toNat y) (fun _ y R => (20 - R).toNat) "y" "R"
  k_with "fit0" => first | assumption | exact Fit.of_le hMf (by omega) (by omega) | (with_reducible refine' Fit.sq ?fa ?fb; (case fb => assumption); (case fa => k_extra "fit0")) | (with_reducible refine' Fit.divN ?fa ?fb; (case fb => exact Int.pow_pos (by decide)); (case fa => k_extra "fit0")) | (with_reducible refine' Fit.add ?fa ?fb; (case fa => k_extra "fit0"); (case fb => k_extra "fit0")) | (with_reducible refine' Fit.mul ?fa ?fb; (case fa => k_extra "fit0"); (case fb => k_extra "fit0")) | (with_reducible refine' Fit.abs ?fa; (case fa => k_extra "fit0")) | exact Fit.small (by omega) (by omega)
  k_with "fit" => first | exact Fit.mono (T_fit hM hp) (by decide) | (refine' Fit.mono ?fx ?fy; (case fx => k_extra "fit0"); (case fy => decide))
  k_with "mul" => (refine' Fit.mulOk ?a ?b ?c; (case a => k_extra "fit0"); (case b => k_extra "fit0"); (case c => decide))
  k_with "shl" => (refine' Fit.shl ?a ?b ?c; (case a => k_extra "fit0"); (case b => omega); (case c => decide))
  k_with "str" => exact Fit.log2 (n := 1500) (Fit.of_le hMf (by omega) (by omega)) (by decide) (by decide)
  k_with "len" => exact Fit.len (n := 1500) (Fit.of_le hMf (by omega) (by omega)) (by decide) (by decide)
  k_with "pos" => first | exact T_pos hM | exact Int.mul_pos hM0 (by assumption) | exact Int.add_pos hM0 (IsSq.pos (by assumption))
  k_with "pyIter ref" => k_state_given ["yshift", "w!"] (fun ys w0 pre w => w = horn M ys w0 pre ∧ -(2 * M + 2) ≤ w ∧ w ≤ 2 * M + 2 ∧ -M ≤ 2 * ys ∧ 2 * ys ≤ M) "w"
  k_with "state" => first | exact hs_start hM0 (T_pos hM) (Int.not_le.mp (mt (cond1 (by omega) (by omega)).mpr (by assumption))) | exact hs_start hM0 (T_pos hM) (Int.not_le.mp (mt (cond2 (by omega)).mpr (by assumption))) |  exact il_start hR | exact il_turn hR (by omega) (by assumption) ((cond1 (by omega) (by omega)).mp (by assumption)) (by assumption) | exact hs_turn hM0 (by omega) (by assumption) (by assumption) (by assumption) (by assumption) (by assumption) | exact il_turn hR (by omega) (by assumption) ((cond2 (by omega)).mp (by assumption)) (by assumption)
  have hT0 := T_pos hM
  have hT1 := T_hi hM hp
  k_steps
  · exact con_retI hret (il_end hM (by assumption) (Int.not_le.mp (mt (cond1 (by omega) (by omega)).mpr (by assumption))) (by assumption)) (by assumption) (by assumption) (by intro p hp; simp [hp])
  · exact con_retI hret (il_end hM (by assumption) (Int.not_le.mp (mt (cond2 (by omega)).mpr (by assumption))) (by assumption)) (by assumption) (by assumption) (by intro p hp; simp [hp])

end
section
local macro_rules | `(tactic| walk_at "binaryOp Pow int int") => `(tactic| k_extra "binaryOp Pow int int ~11")
local macro_rules | `(tactic| walk_at "storeName") => `(tactic| k_extra "storeName ~12")
theorem con_iexp (w : World) (mean) (mg mb) (p : Nat) (x M : Int) (tx tM : Tok) (hM : M = 10 ^ p) (hp : p ≤ 1000) (hM0 : 0 < M) (hMf : Fit 1500 (20 * M))
   (hx : 0 ≤ x) (hx2 : x ≤ 4 * M) (hR : IeOk p x M) : CI w mean mg mb 2 90 [.int x tx, .int M tM] (IsIexp p x M) := by
  unfold CI ConI
  k_fill
  intros; rename_i hret
  refine wpAny_call ?_
  w_on
  k_with_none
  k_with "binaryOp FloorDiv int int ~4" => (((with_reducible show wpAny _ _ (binaryOp Operator.FloorDiv (Value.int _ _) (Value.int _ _)) _ _ _); (refine floordiv_int ?m1 ?_ (Or.inl (Fit.noPylong (n := 9000) ?m2 (by decide))); (case m1 => first | omega | k_extra "ne"); (case m2 => first | assumption | k_extra "fit"))))
  k_with "binaryOp Mult int int ~5" => (((with_reducible show wpAny _ _ (binaryOp Operator.Mult (Value.int _ _) (Value.int _ _)) _ _ _); (with_reducible refine mul_int ?_ ?m1); (case m1 => k_extra "mul")))
  k_with "binaryOp LShift int int ~6" => (((with_reducible show wpAny _ _ (binaryOp Operator.LShift (Value.int _ _) (Value.int _ _)) _ _ _); (with_reducible refine lshift_int ?m1 ?m2 ?_); (case m1 => omega); (case m2 => k_extra "shl")))
  k_with "call type:str ~7" => (((with_reducible show wpAny _ _ (call (Value.type "str") [Value.int _ _]) _ _ _); (refine P.str_of_int ?m1 ?_); (case m1 => k_extra "str")))
  k_with "call builtin:len ~8" => (((with_reducible show wpAny _ _ (call (Value.builtin "len") [Value.str _ _]) _ _ _); (refine P.len_str ?m1 ?_); (case m1 => k_extra "len")))
  k_with "call ref ~9" => ((k_here; k_dflt (first
      | (refine' con_div _ _ _ _ _ _ _ _ ?p1 ?p2 _ _ _ _ _ _ _ _ _ _ _ _ _ _ _ _ _ _ ?k1 ?k2 ?k3 ?k4 ?k5 ?kK ?kd ?ku ?_; (case p1 => first | omega | k_extra "pos"); (case p2 => first | assumption | k_extra "fit"); (case k1 => k_asm); (case k2 => k_asm); (case k3 => k_asm); (case k4 => k_asm); (case k5 => k_asm); (case kK => first | exact rfl | assumption); (case kd => ktr_room); (case ku => ktr_units); intro t9 h9 tk9 F9 N9; (try dsimp only); (try k_fold))
      | (refine' con_rsh _ _ _ _ _ _ _ _ ?p1 ?p2 _ _ _ _ _ _ _ _ _ _ _ _ _ _ _ _ _ _ ?k1 ?k2 ?k3 ?k4 ?k5 ?kK ?kd ?ku ?_; (case p1 => omega); (case p2 => omega); (case k1 => k_asm); (case k2 => k_asm); (case k3 => k_asm); (case k4 => k_asm); (case k5 => k_asm); (case kK => first | exact rfl | assumption); (case kd => ktr_room); (case ku => ktr_units); intro t9 h9 tk9 F9 N9; (try dsimp only); (try k_fold))
      | (refine' con_sq _ _ _ _ _ _ _ _ ?p1 ?p2 ?p3 _ _ _ _ _ _ _ _ _ _ _ _ _ _ _ _ _ _ ?k1 ?k2 ?k3 ?k4 ?k5 ?kK ?kd ?ku ?_; (case p1 => first | omega | k_extra "pos"); (case p2 => first | omega | k_extra "pos"); (case p3 => first | assumption | k_extra "fit"); (case k1 => k_asm); (case k2 => k_asm); (case k3 => k_asm); (case k4 => k_asm); (case k5 => k_asm); (case kK => first | exact rfl | assumption); (case kd => ktr_room); (case ku => ktr_units); intro r9 t9 h9 tk9 P9 F9 N9; (try dsimp only); (try k_fold)))))
  k_with "binaryOp Pow int int ~11" => (((with_reducible show wpAny _ _ (binaryOp Operator.Pow (Value.int _ _) (Value.int _ _)) _ _ _); (with_reducible refine pow_int ?m1 ?m2 ?_); (case m1 => omega); (case m2 => k_extra "pow")))
  k_with "storeName ~12" => (k_extra "norm")
  k_dflt ((refine' code_def ?k1 ?k2 ?k3 ?k4 ?k5 ?kA ?kF ?kK ?k6 ?k7 ?k8 ?k9 ?kB ?_ ?c2 ?c3 ?c4 ?c5; (case kA => exact rfl); (case kF => exact rfl); (case kK => assumption); (case k1 => k_asm); (case k2 => k_asm); (case k3 => k_asm); (case k4 => k_asm); (case k5 => k_asm); (case k6 => k_is); (case k7 => k_is); (case k8 => ktr_room); (case k9 => first | exact BindsTo.of_eq rfl | exact binds_K (by k_in) rfl (by k_is) rfl rfl rfl); (case c5 => decide); (case kB => exact locs rfl); (case c2 => exact rfl); (case c3 => exact rfl); (case c4 => exact rfl); k_whole; intro g' L' h' FG' F' N' B' X' T'; (try dsimp only); (try k_lift B'); (try k_fold)))
  have hTw := T_walk hM
  have hT0 := tays_pos p
  have hT1 : tays p ≤ 1000 := by unfold tays; omega
  generalize hT : tays p = T at hTw hT0 hT1
  obtain ⟨R, hRe⟩ : ∃ R : Nat, Builtin.Int.intBits ((x * 2 ^ Int.toNat 8).fdiv M) = R := ⟨_, rfl⟩
  have hRR := ie_R hM0 hx hRe
  have hok := hR R hRR.1 hRR.2
  have hRf := Fit.two R (by omega)
  have hok2 := hok.2
  have hMf2 : Fit 1520 (20000 * M) := by
    have := Fit.mul (Fit.small (x := 1000) (by decide) (by decide)) hMf
    rw [show 1000 * (20 * M) = 20000 * M by omega] at this
    exact Fit.mono this (by decide)
  unfold ieY at hok2
  rw [hT] at hok2
  k_with "norm" => first | (with_reducible refine st_T hTw ?_) | (with_reducible refine st_R hRe ?_) | (with_reducible refine st_Ms ?_)
  k_with "fit0" => first | (with_reducible assumption) | exact Fit.of_le hMf (by omega) (by omega) | exact Fit.of_le hMf2 (by omega) (by omega) | (with_reducible refine' Fit.divN ?fa ?fb; (case fb => exact Int.pow_pos (by decide)); (case fa => k_extra "fit0")) | (with_reducible refine' Fit.add ?fa ?fb; (case fa => k_extra "fit0"); (case fb => k_extra "fit0")) | (with_reducible refine' Fit.mul ?fa ?fb; (case fa => k_extra "fit0"); (case fb => k_extra "fit0")) | exact Fit.small (by omega) (by omega) | exact Fit.two _ (by omega)
  k_with "fit" => (refine' Fit.mono ?fx ?fy; (case fx => k_extra "fit0"); (case fy => decide))
  have hMR : Fit 1700 (M * 2 ^ R) := Fit.mul (Fit.of_le hMf (by omega) (by omega)) hRf
  k_with "mul" => first | exact Fit.mulOk (n := 1500) (m := 3201) (Fit.of_le hMf (by omega) (by omega)) (Fit.add (n := 1700) (m := 1500) hMR (Fit.of_le hMf (by omega) (by omega))) (by decide) | (refine' Fit.mulOk ?a ?b ?c; (case a => k_extra "fit0"); (case b => k_extra "fit0"); (case c => decide))
  k_with "shl" => (refine' Fit.shl ?a ?b ?c; (case a => k_extra "fit0"); (case b => omega); (case c => decide))
  k_with "str" => exact Fit.log2 (n := 1500) (Fit.of_le hMf (by omega) (by omega)) (by decide) (by decide)
  k_with "len" => exact Fit.len (n := 1500) (Fit.of_le hMf (by omega) (by omega)) (by decide) (by decide)
  k_with "pos" => first | exact Int.mul_pos hM0 (Int.pow_pos (by decide)) | exact Int.mul_pos (Int.mul_pos hM0 (Int.pow_pos (by decide))) (by omega)
  k_with "pyIter ref" => (k_of "i" => k_state (fun pre y => y = ieT (M * 2 ^ R) x T pre.length ∧ 0 ≤ y ∧ y ≤ 2 * x) "y")
  k_with "pyIter ref" => (k_of "k" => k_state (fun pre y => y = ieD M (ieT (M * 2 ^ R) x T (T - 1)) R pre.length ∧ 0 ≤ y ∧ y ≤ 20000 * M) "y")
  have hMs : 256 * x < M * 2 ^ R := hRR.1
  have hst0 := ieT_start (Ms := M * 2 ^ R) hx hT0
  have hdst : ieT (M * 2 ^ R) x T (T - 1) = ieD M (ieT (M * 2 ^ R) x T (T - 1)) R ([] : List Int).length := rfl
  k_with "state" => first | exact hst0 | exact ieT_turn hx hMs (by omega) (by assumption) (by assumption) (by assumption) (by assumption) | exact ie_dstart (by assumption) (by assumption) (by assumption) hx2 | exact ieD_turn (by omega) (by assumption) (by assumption) hok2
  k_steps
  · exact con_retI hret (ie_end hT hMs hRR.2 (by assumption)) (by assumption) (by assumption) (by intro p hp; simp [hp])

end
section
local macro_rules | `(tactic| walk_at "call ref") => `(tactic| k_extra "call ref ~13")
local macro_rules | `(tactic| walk_at "call ref") => `(tactic| k_extra "call ref ~14")
local macro_rules | `(tactic| walk_at "callWith ref") => `(tactic| k_extra "callWith ref ~15")
local macro_rules | `(tactic| walk_at "storeName") => `(tactic| k_extra "storeName ~16")
local macro_rules | `(tactic| walk_at "inplaceOp Mult int int") => `(tactic| k_extra "inplaceOp Mult int int ~17")
local macro_rules | `(tactic| walk_at "binaryOp Pow int int") => `(tactic| k_extra "binaryOp Pow int int ~18")
theorem con_dlogG (w : World) (mean) (mg mb) (n ex : Nat) (c e p f : Int) (tc te tp : Tok) (hn : p + 2 = n) (hn0 : 0 < n) (hn1 : n ≤ 46) (hc : Fit 1100 c) (hc0 : 0 ≤ c) (hff : dlF c e = f) (hf1 : -10000000000 ≤ f) (hf2 : f ≤ 10000000000) (hex : nd (f.natAbs : Int) - 1 = ex) (hx : n + ex ≤ 46)
    (hk1 : -200 ≤ e + n - f) (hk2 : e + n - f ≤ 200) (hR : RedOk (dlC c (e + n - f)) (10 ^ n)) : CI w mean mg mb 3 50 [.int c tc, .int e te, .int p tp] (IsDlog n c e) := by
  unfold CI ConI
  k_fill
  intros; rename_i hret
  refine wpAny_call ?_
  w_on
  k_with_none
  k_with "binaryOp FloorDiv int int ~4" => (((with_reducible show wpAny _ _ (binaryOp Operator.FloorDiv (Value.int _ _) (Value.int _ _)) _ _ _); (refine floordiv_int ?m1 ?_ (Or.inl (Fit.noPylong (n := 9000) ?m2 (by decide))); (case m1 => first | omega | k_extra "ne"); (case m2 => first | assumption | k_extra "fit"))))
  k_with "binaryOp Mult int int ~5" => (((with_reducible show wpAny _ _ (binaryOp Operator.Mult (Value.int _ _) (Value.int _ _)) _ _ _); (with_reducible refine mul_int ?_ ?m1); (case m1 => k_extra "mul")))
  k_with "binaryOp LShift int int ~6" => (((with_reducible show wpAny _ _ (binaryOp Operator.LShift (Value.int _ _) (Value.int _ _)) _ _ _); (with_reducible refine lshift_int ?m1 ?m2 ?_); (case m1 => omega); (case m2 => k_extra "shl")))
  k_with "call type:str ~7" => (((with_reducible show wpAny _ _ (call (Value.type "str") [Value.int _ _]) _ _ _); (refine P.str_of_int ?m1 ?_); (case m1 => k_extra "str")))
  k_with "call builtin:len ~8" => (((with_reducible show wpAny _ _ (call (Value.builtin "len") [Value.str _ _]) _ _ _); (refine P.len_str ?m1 ?_); (case m1 => k_extra "len")))
  k_with "call ref ~9" => ((k_here; k_dflt (first
      | (refine' con_div _ _ _ _ _ _ _ _ ?p1 ?p2 _ _ _ _ _ _ _ _ _ _ _ _ _ _ _ _ _ _ ?k1 ?k2 ?k3 ?k4 ?k5 ?kK ?kd ?ku ?_; (case p1 => first | omega | k_extra "pos"); (case p2 => first | assumption | k_extra "fit"); (case k1 => k_asm); (case k2 => k_asm); (case k3 => k_asm); (case k4 => k_asm); (case k5 => k_asm); (case kK => first | exact rfl | assumption); (case kd => ktr_room); (case ku => ktr_units); intro t9 h9 tk9 F9 N9; (try dsimp only); (try k_fold))
      | (refine' con_rsh _ _ _ _ _ _ _ _ ?p1 ?p2 _ _ _ _ _ _ _ _ _ _ _ _ _ _ _ _ _ _ ?k1 ?k2 ?k3 ?k4 ?k5 ?kK ?kd ?ku ?_; (case p1 => omega); (case p2 => omega); (case k1 => k_asm); (case k2 => k_asm); (case k3 => k_asm); (case k4 => k_asm); (case k5 => k_asm); (case kK => first | exact rfl | assumption); (case kd => ktr_room); (case ku => ktr_units); intro t9 h9 tk9 F9 N9; (try dsimp only); (try k_fold))
      | (refine' con_sq _ _ _ _ _ _ _ _ ?p1 ?p2 ?p3 _ _ _ _ _ _ _ _ _ _ _ _ _ _ _ _ _ _ ?k1 ?k2 ?k3 ?k4 ?k5 ?kK ?kd ?ku ?_; (case p1 => first | omega | k_extra "pos"); (case p2 => first | omega | k_extra "pos"); (case p3 => first | assumption | k_extra "fit"); (case k1 => k_asm); (case k2 => k_asm); (case k3 => k_asm); (case k4 => k_asm); (case k5 => k_asm); (case kK => first | exact rfl | assumption); (case kd => ktr_room); (case ku => ktr_units); intro r9 t9 h9 tk9 P9 F9 N9; (try dsimp only); (try k_fold)))))
  k_with "call ref ~13" => ((k_here; k_dflt (
       (refine' con_ilog _ _ _ _ _ _ _ _ _ ?p1 ?p2 ?p3 ?p4 ?p5 _ _ _ _ _ _ _ _ _ _ _ _ _ _ _ _ _ _ ?k1 ?k2 ?k3 ?k4 ?k5 ?kK ?kd ?ku ?_; (case p1 => k_extra "ilM"); (case p2 => k_extra "ilp"); (case p3 => k_extra "il0"); (case p4 => k_extra "ilF"); (case p5 => k_extra "ilR"); (case k1 => k_asm); (case k2 => k_asm); (case k3 => k_asm); (case k4 => k_asm); (case k5 => k_asm); (case kK => first | exact rfl | assumption); (case kd => ktr_room); (case ku => ktr_units); intro r9 t9 h9 tk9 P9 F9 N9; (try dsimp only); (try k_fold)))))
  k_with "call ref ~14" => ((k_here; k_dflt (
       (refine' con_dig _ _ _ _ _ _ ?p1 ?p2 _ _ _ _ _ _ _ _ _ _ _ _ _ _ _ _ _ _ ?k1 ?k2 ?k3 ?k4 ?k5 ?kK ?kd ?ku ?_; (case p1 => omega); (case p2 => omega); (case k1 => k_asm); (case k2 => k_asm); (case k3 => k_asm); (case k4 => k_asm); (case k5 => k_asm); (case kK => first | exact rfl | assumption); (case kd => ktr_room); (case ku => ktr_units); intro t9 h9 tk9 F9 N9; (try dsimp only); (try k_fold)))))
  k_with "callWith ref ~15" => ((k_here; k_dflt (refine' callWith_T ?k1 ?k2 ?k3 ?_; (case k1 => k_asm); (case k2 => rfl); (case k3 => k_is); k_whole)))
  k_with "storeName ~16" => (k_extra "norm")
  k_with "inplaceOp Mult int int ~17" => (((with_reducible show wpAny _ _ (inplaceOp Operator.Mult (Value.int _ _) (Value.int _ _)) _ _ _); (with_reducible refine imul_int ?_ ?m1); (case m1 => k_extra "mul")))
  k_with "binaryOp Pow int int ~18" => (((with_reducible show wpAny _ _ (binaryOp Operator.Pow (Value.int _ _) (Value.int _ _)) _ _ _); (with_reducible refine pow_int ?m1 ?m2 ?_); (case m1 => omega); (case m2 => k_extra "pow")))
  k_dflt cell_enter
  obtain ⟨K, hK⟩ : ∃ K, e + (n : Int) - f = K := ⟨_, rfl⟩
  rw [hK] at hR hk1 hk2
  have hf : (e + ((Str.ofString (toString c)).length : Int) - if decide (1 ≤ e + ((Str.ofString (toString c)).length : Int)) = true then 1 else 0) = f := hff
  have hxx : (((Str.ofString (toString (if f < 0 then -f else f))).length : Int)) - 1 = (ex : Int) := by
    rw [abs_if]
    have h1 := nd_pos (f.natAbs : Int) (by omega)
    have : ((Str.ofString (toString (f.natAbs : Int))).length) = nd (f.natAbs : Int) := rfl
    rw [this]; omega
  have hFf : Fit 40 f := by unfold Fit; omega
  k_with "norm" => first | (with_reducible refine st_eq (x := Str.ofString "p") hn ?_) | (with_reducible refine st_eq (x := Str.ofString "f") hf ?_) | (with_reducible refine st_eq (x := Str.ofString "k") hK ?_) | (with_reducible refine st_eq (x := Str.ofString "extra") hxx ?_)
  k_with "str" => first | exact Fit.log2 hc (by decide) (by decide) | exact Fit.log2 (Fit.abs hFf) (by decide) (by decide)
  k_with "len" => first | exact Fit.len hc (by decide) (by decide) | exact Fit.len (Fit.abs hFf) (by decide) (by decide)
  k_with "mul" => first | exact Fit.mulOk hc (Fit.ten rfl (by omega)) (by decide) | exact Fit.mulOk hFf (l10_fit _) (by decide)
  k_with "pow" => exact Fit.powOk (Fit.small (by decide) (by decide)) ⟨by omega, by omega⟩ (by decide)
  k_with "pos" => exact Int.pow_pos (by decide)
  k_with "fit" => first | exact Fit.mono (Fit.ten rfl (by omega)) (by decide) | exact Fit.mono (Fit.small (by decide) (by decide)) (by decide)
  k_with "ilM" => exact ten_nat n
  k_with "ilp" => omega
  k_with "il0" => exact Int.pow_pos (by decide)
  k_with "ilF" => exact ten_fit (by omega)
  k_with "ilR" => first | exact ilR1 (by omega) hR | exact ilR2 (by omega) hR
  k_steps
  · exact con_retI hret (dl_fin hff hK (dl_k1 (by omega) (by assumption)) (dl_t1 (by omega) hex) rfl) (by assumption) (by assumption) (by intro p hp; simp [hp])
  · exact con_retI hret (dl_fin hff hK (dl_k1 (by omega) (by assumption)) (dl_t0 (by omega)) rfl) (by assumption) (by assumption) (by intro p hp; simp [hp])
  · exact con_retI hret (dl_fin hff hK (dl_k2 (by omega) (by assumption)) (dl_t1 (by omega) hex) rfl) (by assumption) (by assumption) (by intro p hp; simp [hp])
  · exact con_retI hret (dl_fin hff hK (dl_k2 (by omega) (by assumption)) (dl_t0 (by omega)) rfl) (by assumption) (by assumption) (by intro p hp; simp [hp])

end
section
local macro_rules | `(tactic| walk_at "binaryOp Pow int int") => `(tactic| k_extra "binaryOp Pow int int ~19")
local macro_rules | `(tactic| walk_at "call ref") => `(tactic| k_extra "call ref ~20")
local macro_rules | `(tactic| walk_at "callWith ref") => `(tactic| k_extra "callWith ref ~21")
local macro_rules | `(tactic| walk_at "call ref") => `(tactic| k_extra "call ref ~22")
abbrev CP (w : World) (mean : ExcName → Option Value) (mg mb : Str → Option Value) (d : Nat) (f : Addr) (vs : List Value) (P : Int → Int → Prop) : Prop :=
  ConP PySem.Challenge.rw_dm0271_06.row.prog w (hd.heap_39 w.params) hd.view_39 (looseW hd.view_39 [Str.ofString "_nbits", Str.ofString "_ilog", Str.ofString "_log10_digits", Str.ofString "_iexp"]) mean mg mb d f vs P
local macro_rules | `(tactic| walk_at "storeName") => `(tactic| k_extra "storeName ~23")
local macro_rules | `(tactic| walk_at "binaryOp Pow int int") => `(tactic| k_extra "binaryOp Pow int int ~24")
local macro_rules | `(tactic| walk_at "call builtin:divmod") => `(tactic| k_extra "call builtin:divmod ~25")
theorem con_dexp (w : World) (mean) (mg mb) (n : Nat) (c e p : Int) (tc te tp : Tok) (hn : p + 2 = n) (hn0 : 3 ≤ n) (hc : Fit 1100 c) (hq : n + dxE c e ≤ 46) (he1 : -200 ≤ e) (he2 : e ≤ 200)
    (hI : IeOk n (dxR n c e) (10 ^ n)) (hr0 : 0 ≤ dxR n c e) (hr1 : dxR n c e ≤ 4 * 10 ^ n) (hl : ∀ q, q ≤ 46 → 0 < l10 q) : CP w mean mg mb 3 97 [.int c tc, .int e te, .int p tp] (IsDexp n c e) := by
  unfold CP ConP
  k_fill
  intros; rename_i hret
  refine wpAny_call ?_
  w_on
  k_with_none
  k_with "binaryOp FloorDiv int int ~4" => (((with_reducible show wpAny _ _ (binaryOp Operator.FloorDiv (Value.int _ _) (Value.int _ _)) _ _ _); (refine floordiv_int ?m1 ?_ (Or.inl (Fit.noPylong (n := 9000) ?m2 (by decide))); (case m1 => first | omega | k_extra "ne"); (case m2 => first | assumption | k_extra "fit"))))
  k_with "binaryOp Mult int int ~5" => (((with_reducible show wpAny _ _ (binaryOp Operator.Mult (Value.int _ _) (Value.int _ _)) _ _ _); (with_reducible refine mul_int ?_ ?m1); (case m1 => k_extra "mul")))
  k_with "binaryOp LShift int int ~6" => (((with_reducible show wpAny _ _ (binaryOp Operator.LShift (Value.int _ _) (Value.int _ _)) _ _ _); (with_reducible refine lshift_int ?m1 ?m2 ?_); (case m1 => omega); (case m2 => k_extra "shl")))
  k_with "call type:str ~7" => (((with_reducible show wpAny _ _ (call (Value.type "str") [Value.int _ _]) _ _ _); (refine P.str_of_int ?m1 ?_); (case m1 => k_extra "str")))
  k_with "call builtin:len ~8" => (((with_reducible show wpAny _ _ (call (Value.builtin "len") [Value.str _ _]) _ _ _); (refine P.len_str ?m1 ?_); (case m1 => k_extra "len")))
  k_with "call ref ~9" => ((k_here; k_dflt (first
      | (refine' con_div _ _ _ _ _ _ _ _ ?p1 ?p2 _ _ _ _ _ _ _ _ _ _ _ _ _ _ _ _ _ _ ?k1 ?k2 ?k3 ?k4 ?k5 ?kK ?kd ?ku ?_; (case p1 => first | omega | k_extra "pos"); (case p2 => first | assumption | k_extra "fit"); (case k1 => k_asm); (case k2 => k_asm); (case k3 => k_asm); (case k4 => k_asm); (case k5 => k_asm); (case kK => first | exact rfl | assumption); (case kd => ktr_room); (case ku => ktr_units); intro t9 h9 tk9 F9 N9; (try dsimp only); (try k_fold))
      | (refine' con_rsh _ _ _ _ _ _ _ _ ?p1 ?p2 _ _ _ _ _ _ _ _ _ _ _ _ _ _ _ _ _ _ ?k1 ?k2 ?k3 ?k4 ?k5 ?kK ?kd ?ku ?_; (case p1 => omega); (case p2 => omega); (case k1 => k_asm); (case k2 => k_asm); (case k3 => k_asm); (case k4 => k_asm); (case k5 => k_asm); (case kK => first | exact rfl | assumption); (case kd => ktr_room); (case ku => ktr_units); intro t9 h9 tk9 F9 N9; (try dsimp only); (try k_fold))
      | (refine' con_sq _ _ _ _ _ _ _ _ ?p1 ?p2 ?p3 _ _ _ _ _ _ _ _ _ _ _ _ _ _ _ _ _ _ ?k1 ?k2 ?k3 ?k4 ?k5 ?kK ?kd ?ku ?_; (case p1 => first | omega | k_extra "pos"); (case p2 => first | omega | k_extra "pos"); (case p3 => first | assumption | k_extra "fit"); (case k1 => k_asm); (case k2 => k_asm); (case k3 => k_asm); (case k4 => k_asm); (case k5 => k_asm); (case kK => first | exact rfl | assumption); (case kd => ktr_room); (case ku => ktr_units); intro r9 t9 h9 tk9 P9 F9 N9; (try dsimp only); (try k_fold)))))
  k_with "binaryOp Pow int int ~19" => (((with_reducible show wpAny _ _ (binaryOp Operator.Pow (Value.int _ _) (Value.int _ _)) _ _ _); (with_reducible refine pow_int ?m1 ?m2 ?_); (case m1 => omega); (case m2 => k_extra "pow")))
  k_with "call ref ~20" => ((k_here; k_dflt (
       (refine' con_dig _ _ _ _ _ _ ?p1 ?p2 _ _ _ _ _ _ _ _ _ _ _ _ _ _ _ _ _ _ ?k1 ?k2 ?k3 ?k4 ?k5 ?kK ?kd ?ku ?_; (case p1 => omega); (case p2 => omega); (case k1 => k_asm); (case k2 => k_asm); (case k3 => k_asm); (case k4 => k_asm); (case k5 => k_asm); (case kK => first | exact rfl | assumption); (case kd => ktr_room); (case ku => ktr_units); intro t9 h9 tk9 F9 N9; (try dsimp only); (try k_fold)))))
  k_with "callWith ref ~21" => ((k_here; k_dflt (refine' callWith_T ?k1 ?k2 ?k3 ?_; (case k1 => k_asm); (case k2 => rfl); (case k3 => k_is); k_whole)))
  k_with "call ref ~22" => ((k_here; k_dflt (
       (refine' con_iexp _ _ _ _ _ _ _ _ _ ?p1 ?p2 ?p3 ?p4 ?p5 ?p6 ?p7 _ _ _ _ _ _ _ _ _ _ _ _ _ _ _ _ _ _ ?k1 ?k2 ?k3 ?k4 ?k5 ?kK ?kd ?ku ?_; (case p1 => k_extra "ie1"); (case p2 => k_extra "ie2"); (case p3 => k_extra "ie3"); (case p4 => k_extra "ie4"); (case p5 => k_extra "ie5"); (case p6 => k_extra "ie6"); (case p7 => k_extra "ie7"); (case k1 => k_asm); (case k2 => k_asm); (case k3 => k_asm); (case k4 => k_asm); (case k5 => k_asm); (case kK => first | exact rfl | assumption); (case kd => ktr_room); (case ku => ktr_units); intro r9 t9 h9 tk9 P9 F9 N9; (try dsimp only); (try k_fold)))))
  k_with "storeName ~23" => (k_extra "norm")
  k_with "binaryOp Pow int int ~24" => (((with_reducible show wpAny _ _ (binaryOp Operator.Pow (Value.int _ _) (Value.int _ _)) _ _ _); (with_reducible refine pow_int ?m1 ?m2 ?_); (case m1 => omega); (case m2 => k_extra "pow")))
  k_with "call builtin:divmod ~25" => (((with_reducible show wpAny _ _ (call (Value.builtin _) [Value.int _ _, Value.int _ _]) _ _ _); refine divmod_N (by assumption) (by assumption) ?m1 ?_ (Or.inl (Fit.noPylong (n := 9000) ?m2 (by decide))); (case m1 => k_extra "ne"); (case m2 => k_extra "fit"); intro _ _ _))
  k_dflt cell_enter
  have hlq := hl (n + dxE c e) hq
  obtain ⟨S, hS⟩ : ∃ S, e + ((n + dxE c e : Nat) : Int) = S := ⟨_, rfl⟩
  k_with "norm" => first | (with_reducible refine st_eq (x := Str.ofString "p") hn ?_) | (with_reducible refine st_eq (x := Str.ofString "extra") dx_e ?_) | (with_reducible refine st_eq (x := Str.ofString "q") dx_q ?_) | (with_reducible refine st_eq (x := Str.ofString "shift") hS ?_) | (with_reducible refine st_eq (x := Str.ofString "cshift") (dx_c1 hS (by omega)) ?_) | (with_reducible refine st_eq (x := Str.ofString "cshift") (dx_c2 hS (by omega)) ?_) | (with_reducible refine st_eq (x := Str.ofString "rem") (dx_r hlq) ?_)
  k_with "ie1" => exact ten_nat n
  k_with "ie2" => omega
  k_with "ie3" => exact Int.pow_pos (by decide)
  k_with "ie4" => exact ten_fit (by omega)
  k_with "ie5" => exact hr0
  k_with "ie6" => exact hr1
  k_with "ie7" => exact hI
  k_with "str" => first | exact Fit.log2 hc (by decide) (by decide)
  k_with "len" => first | exact Fit.len hc (by decide) (by decide)
  k_with "mul" => first | exact Fit.mulOk hc (Fit.ten rfl (by omega)) (by decide)
  k_with "pow" => exact Fit.powOk (Fit.small (by decide) (by decide)) ⟨by omega, by omega⟩ (by decide)
  k_with "pos" => exact Int.pow_pos (by decide)
  k_with "fit" => first | exact Fit.mono (Fit.ten rfl (by omega)) (by decide) | exact Fit.mono (Fit.small (by decide) (by decide)) (by decide) | exact Fit.mono (l10_fit _) (by decide)
  k_with "ne" => first | exact Int.ne_of_gt (hl _ (by omega)) | exact Int.ne_of_gt (Int.pow_pos (by decide))
  k_steps
  · exact con_retP hret (dx_end hlq (by assumption)) (by assumption) (by assumption) (by k_memK) (allLt_to (by first | assumption | exact And.right (by assumption))) (by intro p hp; simp [hp])
  · exact con_retP hret (dx_end hlq (by assumption)) (by assumption) (by assumption) (by k_memK) (allLt_to (by first | assumption | exact And.right (by assumption))) (by intro p hp; simp [hp])

end
section
local macro_rules | `(tactic| walk_at "binaryOp Pow int int") => `(tactic| k_extra "binaryOp Pow int int ~26")
local macro_rules | `(tactic| walk_at "call ref") => `(tactic| k_extra "call ref ~27")
abbrev CV (w : World) (mean : ExcName → Option Value) (mg mb : Str → Option Value) (d : Nat) (f : Addr) (vs : List Value) (v : Value) : Prop :=
  ConV PySem.Challenge.rw_dm0271_06.row.prog w (hd.heap_39 w.params) hd.view_39 (looseW hd.view_39 [Str.ofString "_nbits", Str.ofString "_ilog", Str.ofString "_log10_digits", Str.ofString "_iexp"]) mean mg mb d f vs v
local macro_rules | `(tactic| walk_at "binaryOp Pow int int") => `(tactic| k_extra "binaryOp Pow int int ~28")
theorem con_islog (w : World) (mean) (mg mb) (log places size : Int) (tl tp ts : Tok) (hs1 : 1 ≤ size) (hsf : Fit 1100 size) (hc : Fit 1100 log) (hp1 : 0 ≤ places) (hp2 : places ≤ 200) (hq : nd size + 2 + dxE log (-places) ≤ 46)
    (H : ∀ d f, IsDexp (nd size + 2) log (-places) d f → f ≤ 0 ∧ -100 ≤ f ∧ d = size * 10 ^ (-f).toNat) : CV w mean mg mb 4 104 [.int log tl, .int places tp, .int size ts] (.bool true) := by
  unfold CV ConV
  k_fill
  intros; rename_i hret
  refine wpAny_call ?_
  w_on
  k_with_none
  k_with "binaryOp FloorDiv int int ~4" => (((with_reducible show wpAny _ _ (binaryOp Operator.FloorDiv (Value.int _ _) (Value.int _ _)) _ _ _); (refine floordiv_int ?m1 ?_ (Or.inl (Fit.noPylong (n := 9000) ?m2 (by decide))); (case m1 => first | omega | k_extra "ne"); (case m2 => first | assumption | k_extra "fit"))))
  k_with "binaryOp Mult int int ~5" => (((with_reducible show wpAny _ _ (binaryOp Operator.Mult (Value.int _ _) (Value.int _ _)) _ _ _); (with_reducible refine mul_int ?_ ?m1); (case m1 => k_extra "mul")))
  k_with "binaryOp LShift int int ~6" => (((with_reducible show wpAny _ _ (binaryOp Operator.LShift (Value.int _ _) (Value.int _ _)) _ _ _); (with_reducible refine lshift_int ?m1 ?m2 ?_); (case m1 => omega); (case m2 => k_extra "shl")))
  k_with "call type:str ~7" => (((with_reducible show wpAny _ _ (call (Value.type "str") [Value.int _ _]) _ _ _); (refine P.str_of_int ?m1 ?_); (case m1 => k_extra "str")))
  k_with "call builtin:len ~8" => (((with_reducible show wpAny _ _ (call (Value.builtin "len") [Value.str _ _]) _ _ _); (refine P.len_str ?m1 ?_); (case m1 => k_extra "len")))
  k_with "call ref ~9" => ((k_here; k_dflt (first
      | (refine' con_div _ _ _ _ _ _ _ _ ?p1 ?p2 _ _ _ _ _ _ _ _ _ _ _ _ _ _ _ _ _ _ ?k1 ?k2 ?k3 ?k4 ?k5 ?kK ?kd ?ku ?_; (case p1 => first | omega | k_extra "pos"); (case p2 => first | assumption | k_extra "fit"); (case k1 => k_asm); (case k2 => k_asm); (case k3 => k_asm); (case k4 => k_asm); (case k5 => k_asm); (case kK => first | exact rfl | assumption); (case kd => ktr_room); (case ku => ktr_units); intro t9 h9 tk9 F9 N9; (try dsimp only); (try k_fold))
      | (refine' con_rsh _ _ _ _ _ _ _ _ ?p1 ?p2 _ _ _ _ _ _ _ _ _ _ _ _ _ _ _ _ _ _ ?k1 ?k2 ?k3 ?k4 ?k5 ?kK ?kd ?ku ?_; (case p1 => omega); (case p2 => omega); (case k1 => k_asm); (case k2 => k_asm); (case k3 => k_asm); (case k4 => k_asm); (case k5 => k_asm); (case kK => first | exact rfl | assumption); (case kd => ktr_room); (case ku => ktr_units); intro t9 h9 tk9 F9 N9; (try dsimp only); (try k_fold))
      | (refine' con_sq _ _ _ _ _ _ _ _ ?p1 ?p2 ?p3 _ _ _ _ _ _ _ _ _ _ _ _ _ _ _ _ _ _ ?k1 ?k2 ?k3 ?k4 ?k5 ?kK ?kd ?ku ?_; (case p1 => first | omega | k_extra "pos"); (case p2 => first | omega | k_extra "pos"); (case p3 => first | assumption | k_extra "fit"); (case k1 => k_asm); (case k2 => k_asm); (case k3 => k_asm); (case k4 => k_asm); (case k5 => k_asm); (case kK => first | exact rfl | assumption); (case kd => ktr_room); (case ku => ktr_units); intro r9 t9 h9 tk9 P9 F9 N9; (try dsimp only); (try k_fold)))))
  k_with "binaryOp Pow int int ~26" => (((with_reducible show wpAny _ _ (binaryOp Operator.Pow (Value.int _ _) (Value.int _ _)) _ _ _); (with_reducible refine pow_int ?m1 ?m2 ?_); (case m1 => omega); (case m2 => k_extra "pow")))
  k_with "call ref ~27" => ((k_here; k_dflt (
       (refine' con_dexp _ _ _ _ _ _ _ _ _ _ _ ?p1 ?p2 ?p3 ?p4 ?p5 ?p6 ?p7 ?p8 ?p9 ?pa _ _ _ _ _ _ _ _ _ _ _ _ _ _ _ _ _ _ ?k1 ?k2 ?k3 ?k4 ?k5 ?kK ?kd ?ku ?_; (case p1 => k_extra "dx1"); (case p2 => k_extra "dx2"); (case p3 => k_extra "dx3"); (case p4 => k_extra "dx4"); (case p5 => k_extra "dx5"); (case p6 => k_extra "dx6"); (case p7 => k_extra "dx7"); (case p8 => k_extra "dx8"); (case p9 => k_extra "dx9"); (case pa => exact l10_pos); (case k1 => k_asm); (case k2 => k_asm); (case k3 => k_asm); (case k4 => k_asm); (case k5 => k_asm); (case kK => first | exact rfl | assumption); (case kd => ktr_room); (case ku => ktr_units); intro ra9 rb9 ta9 tb9 D9 h9 tk9 P9 F9 N9 l1; (try dsimp only); (try k_lt l1); (try k_fold)))))
  k_with "binaryOp Pow int int ~28" => (((with_reducible show wpAny _ _ (binaryOp Operator.Pow (Value.int _ _) (Value.int _ _)) _ _ _); (with_reducible refine pow_int ?m1 ?m2 ?_); (case m1 => first | omega | k_extra "powe"); (case m2 => k_extra "pow")))
  k_dflt cell_enter
  have hn3 : 3 ≤ nd size + 2 := by have := nd_pos size (by omega); omega
  k_with "dx1" => exact isl_n
  k_with "dx2" => exact hn3
  k_with "dx3" => exact hc
  k_with "dx4" => exact hq
  k_with "dx5" => omega
  k_with "dx6" => omega
  k_with "dx7" => exact dxr_ie hn3 hq
  k_with "dx8" => exact (dxr_ok hn3 hq).1
  k_with "dx9" => exact dxr_4 hn3 hq
  k_with "str" => exact Fit.log2 hsf (by decide) (by decide)
  k_with "len" => exact Fit.len hsf (by decide) (by decide)
  k_with "mul" => exact Fit.mulOk hsf (Fit.ten rfl (by have := H _ _ (by assumption); omega)) (by decide)
  k_with "pow" => exact Fit.powOk (Fit.small (by decide) (by decide)) ⟨by have := H _ _ (by assumption); omega, by have := H _ _ (by assumption); omega⟩ (by decide)
  k_with "powe" => (have := H _ _ (by assumption); omega)
  k_steps
  · exact con_retV hret (isl_t (H _ _ (by assumption)).2.2) (by assumption) (by assumption) (by intro p hp; simp [hp])
  · exact absurd (H _ _ (by assumption)).1 (by assumption)

end
section
theorem con_dl (w : World) (mean) (mg mb) (n : Nat) (c e p : Int) (tc te tp : Tok) (hn : p + 2 = n) (h : DlOk n c e) : CI w mean mg mb 3 50 [.int c tc, .int e te, .int p tp] (IsDlog n c e) :=
  con_dlogG w mean mg mb n (nd ((dlF c e).natAbs : Int) - 1) c e p (dlF c e) tc te tp hn (by have := h.1; omega) h.2.1 h.2.2.1 h.2.2.2.1 rfl h.2.2.2.2.1 h.2.2.2.2.2.1 rfl h.2.2.2.2.2.2.1 h.2.2.2.2.2.2.2.1 h.2.2.2.2.2.2.2.2.1 h.2.2.2.2.2.2.2.2.2
theorem con_isl (w : World) (mean) (mg mb) (log places size : Int) (tl tp ts : Tok) (h : IlOk log places size) : CV w mean mg mb 4 104 [.int log tl, .int places tp, .int size ts] (.bool true) :=
  con_islog w mean mg mb log places size tl tp ts h.1 h.2.1 h.2.2.1 h.2.2.2.1 h.2.2.2.2.1 h.2.2.2.2.2.1 h.2.2.2.2.2.2

end
section
local macro_rules | `(tactic| walk_at "binaryOp Pow int int") => `(tactic| k_extra "binaryOp Pow int int ~29")
local macro_rules | `(tactic| walk_at "execs cons") => `(tactic| k_extra "execs cons ~30")
local macro_rules | `(tactic| walk_at "execs nil") => `(tactic| k_extra "execs nil ~31")
local macro_rules | `(tactic| walk_at "exec For Name BinOp cons nil") => `(tactic| k_extra "exec For Name BinOp cons nil ~32")
local macro_rules | `(tactic| walk_at "exec For") => `(tactic| k_extra "exec For ~33")
local macro_rules | `(tactic| walk_at "binaryOp Pow int int") => `(tactic| k_extra "binaryOp Pow int int ~34")
local macro_rules | `(tactic| walk_at "binaryOp Mod int int") => `(tactic| k_extra "binaryOp Mod int int ~35")
local macro_rules | `(tactic| walk_at "inplaceOp Mult int int") => `(tactic| k_extra "inplaceOp Mult int int ~36")
local macro_rules | `(tactic| walk_at "storeName") => `(tactic| k_extra "storeName ~37")
local macro_rules | `(tactic| walk_at "call ref") => `(tactic| k_extra "call ref ~38")
local macro_rules | `(tactic| walk_at "exec For Tuple Name cons nil") => `(tactic| k_extra "exec For Tuple Name cons nil ~39")
local macro_rules | `(tactic| walk_at "pyIter ref") => `(tactic| k_extra "pyIter ref ~40")
local macro_rules | `(tactic| walk_at "TnPost") => `(tactic| k_extra "TnPost ~41")
local macro_rules | `(tactic| walk_at "TnEnd") => `(tactic| k_extra "TnEnd ~42")
local macro_rules | `(tactic| walk_at "inplaceOp FloorDiv int int") => `(tactic| k_extra "inplaceOp FloorDiv int int ~43")
theorem t06 : PySem.Challenge.rw_dm0271_06.Holds := hd (by
  w_strict (
  k_with_none
  k_with "binaryOp FloorDiv int int ~4" => (((with_reducible show wpAny _ _ (binaryOp Operator.FloorDiv (Value.int _ _) (Value.int _ _)) _ _ _); (refine floordiv_int ?m1 ?_ (Or.inl (Fit.noPylong (n := 9000) ?m2 (by decide))); (case m1 => first | omega | k_extra "ne"); (case m2 => first | assumption | k_extra "fit"))))
  k_with "binaryOp Mult int int ~5" => (((with_reducible show wpAny _ _ (binaryOp Operator.Mult (Value.int _ _) (Value.int _ _)) _ _ _); (with_reducible refine mul_int ?_ ?m1); (case m1 => k_extra "mul")))
  k_with "binaryOp LShift int int ~6" => (((with_reducible show wpAny _ _ (binaryOp Operator.LShift (Value.int _ _) (Value.int _ _)) _ _ _); (with_reducible refine lshift_int ?m1 ?m2 ?_); (case m1 => omega); (case m2 => k_extra "shl")))
  k_with "call type:str ~7" => (((with_reducible show wpAny _ _ (call (Value.type "str") [Value.int _ _]) _ _ _); (refine P.str_of_int ?m1 ?_); (case m1 => k_extra "str")))
  k_with "call builtin:len ~8" => (((with_reducible show wpAny _ _ (call (Value.builtin "len") [Value.str _ _]) _ _ _); (refine P.len_str ?m1 ?_); (case m1 => k_extra "len")))
  k_with "call ref ~9" => ((k_here; k_dflt (first
      | (refine' con_div _ _ _ _ _ _ _ _ ?p1 ?p2 _ _ _ _ _ _ _ _ _ _ _ _ _ _ _ _ _ _ ?k1 ?k2 ?k3 ?k4 ?k5 ?kK ?kd ?ku ?_; (case p1 => first | omega | k_extra "pos"); (case p2 => first | assumption | k_extra "fit"); (case k1 => k_asm); (case k2 => k_asm); (case k3 => k_asm); (case k4 => k_asm); (case k5 => k_asm); (case kK => first | exact rfl | assumption); (case kd => ktr_room); (case ku => ktr_units); intro t9 h9 tk9 F9 N9; (try dsimp only); (try k_fold))
      | (refine' con_rsh _ _ _ _ _ _ _ _ ?p1 ?p2 _ _ _ _ _ _ _ _ _ _ _ _ _ _ _ _ _ _ ?k1 ?k2 ?k3 ?k4 ?k5 ?kK ?kd ?ku ?_; (case p1 => omega); (case p2 => omega); (case k1 => k_asm); (case k2 => k_asm); (case k3 => k_asm); (case k4 => k_asm); (case k5 => k_asm); (case kK => first | exact rfl | assumption); (case kd => ktr_room); (case ku => ktr_units); intro t9 h9 tk9 F9 N9; (try dsimp only); (try k_fold))
      | (refine' con_sq _ _ _ _ _ _ _ _ ?p1 ?p2 ?p3 _ _ _ _ _ _ _ _ _ _ _ _ _ _ _ _ _ _ ?k1 ?k2 ?k3 ?k4 ?k5 ?kK ?kd ?ku ?_; (case p1 => first | omega | k_extra "pos"); (case p2 => first | omega | k_extra "pos"); (case p3 => first | assumption | k_extra "fit"); (case k1 => k_asm); (case k2 => k_asm); (case k3 => k_asm); (case k4 => k_asm); (case k5 => k_asm); (case kK => first | exact rfl | assumption); (case kd => ktr_room); (case ku => ktr_units); intro r9 t9 h9 tk9 P9 F9 N9; (try dsimp only); (try k_fold)))))
  k_with "binaryOp Pow int int ~29" => (((with_reducible show wpAny _ _ (binaryOp Operator.Pow (Value.int _ _) (Value.int _ _)) _ _ _); (with_reducible refine pow_int ?m1 ?m2 ?_); (case m1 => omega); (case m2 => k_extra "pow")))
  k_with "execs cons ~30" => ((dsimp only))
  k_with "execs nil ~31" => ((dsimp only))
  k_with "exec For Name BinOp cons nil ~32" => ((k_here; (rename Fr _ _ _ _ => lF'); (with_unfolding_all refine' For_invVF lF' ?k1 ?k2 ?_; (case k1 => exact rfl); (case k2 => exact rfl); k_whole)))
  k_with "exec For ~33" => ((k_here; (with_reducible show wpAny _ _ (exec (Stmt.For (Expr.Name _ _) (Expr.BinOp _ _ _ _) _ [] _) _) _ _ _); (rename Fr _ _ _ _ => lF'); (with_unfolding_all refine' For_invVF lF' ?k1 ?k2 ?_; (case k1 => exact rfl); (case k2 => exact rfl); k_whole)))
  k_with "binaryOp Pow int int ~34" => (((with_reducible show wpAny _ _ (binaryOp Operator.Pow (Value.int _ _) (Value.int _ _)) _ _ _); (with_reducible refine pow_int ?m1 ?m2 ?_); (case m1 => omega); (case m2 => k_extra "pow")))
  k_with "binaryOp Mod int int ~35" => (((with_reducible show wpAny _ _ (binaryOp Operator.Mod (Value.int _ _) (Value.int _ _)) _ _ _); (refine mod_int' ?m1 ?_; (case m1 => first | omega | k_extra "ne"))))
  k_with "inplaceOp Mult int int ~36" => (((with_reducible show wpAny _ _ (inplaceOp Operator.Mult (Value.int _ _) (Value.int _ _)) _ _ _); (with_reducible refine imul_int ?_ ?m1); (case m1 => k_extra "mul")))
  k_with "storeName ~37" => (first | (with_reducible refine st6_n ?_; intro N9 hNa9 hNb9) | (with_reducible refine st6_p2 ?_) | (with_reducible refine st6_p1 ?_))
  k_with "call ref ~38" => ((k_here; k_dflt (first
       | (refine' con_dl _ _ _ _ _ _ _ _ _ _ _ ?p1 ?p2 _ _ _ _ _ _ _ _ _ _ _ _ _ _ _ _ _ _ ?k1 ?k2 ?k3 ?k4 ?k5 ?kK ?kd ?ku ?_; (case p1 => exact d6n); (case p2 => k_extra "dl2"); (case k1 => k_asm); (case k2 => k_asm); (case k3 => k_asm); (case k4 => k_asm); (case k5 => k_asm); (case kK => first | exact rfl | assumption); (case kd => ktr_room); (case ku => ktr_units); intro r9 t9 h9 tk9 P9 F9 N9; (try dsimp only); (try k_fold))
       | (refine' con_isl _ _ _ _ _ _ _ _ _ _ ?p1 _ _ _ _ _ _ _ _ _ _ _ _ _ _ _ _ _ _ ?k1 ?k2 ?k3 ?k4 ?k5 ?kK ?kd ?ku ?_; (case p1 => k_extra "isl"); (case k1 => k_asm); (case k2 => k_asm); (case k3 => k_asm); (case k4 => k_asm); (case k5 => k_asm); (case kK => first | exact rfl | assumption); (case kd => ktr_room); (case ku => ktr_units); intro h9 tk9 F9 N9; (try dsimp only); (try k_fold)))))
  k_with "exec For Tuple Name cons nil ~39" => ((k_here; (rename Fr _ _ _ _ => lF'); (with_unfolding_all refine' For_turns lF' ?_; k_whole)))
  k_with "pyIter ref ~40" => ((k_here; (with_reducible show wpAny _ _ (pyIter (Value.ref _)) (fun it s₂ => TurnsAt _ _ _ _ _ _ _ _ _ it s₂) _ _); (rename Fr _ _ _ _ => lF'); (rename News _ _ _ _ => lN'); (rename DatAll _ _ _ => lD'); (first
       | (with_unfolding_all refine' tn6a ?hh lF' lN' ?hm ?hc ?hdt lD' ?hsub ?h6 ?h1 ?h2 ?_ ?_; (case hm => k_memK); (case hc => exact rfl); (case hdt => exact rfl); (case hsub => (intro q hq; exact List.Mem.tail _ hq)); (case h6 => assumption); (case hh => exact rfl); (case h1 => exact rfl); (case h2 => exact rfl))
       | (with_unfolding_all refine' tn6b ?hh lF' lN' ?hm ?hc ?hdt lD' ?hsub ?h6 ?h1 ?h2 ?hP2 ?_ ?_; (case hm => k_memK); (case hc => exact rfl); (case hdt => exact rfl); (case hsub => (intro q hq; exact List.Mem.tail _ hq)); (case h6 => assumption); (case hh => exact rfl); (case h1 => exact rfl); (case h2 => exact rfl); (case hP2 => assumption))
       | (with_unfolding_all refine' tn6c ?hh lF' lN' ?hm ?hc ?hdt lD' ?hsub ?h6 ?_ ?_; (case hm => k_memK); (case hc => exact rfl); (case hdt => exact rfl); (case hsub => (intro q hq; exact List.Mem.tail _ hq)); (case h6 => assumption); (case hh => exact rfl))); (all_goals (try clear lF' lN')); (first
       | (intro pre9 post9 a9 b9 ta9 tb9 T9 nT9 X9 Y9 tx9 ty9 u9 h9 tk9 r9 e9 hP9 x19 x29 x39 x49 F9 N9; (try k_fold))
       | (intro pre9 post9 a9 b9 ta9 tb9 T9 nT9 u9 h9 tk9 r9 x19 x29 x39 x49 F9 N9; (try k_fold))
       | (intro X9 Y9 tx9 ty9 u9 h9 tk9 hP9 F9 N9; (try k_fold))
       | (intro X9 Y9 tx9 ty9 u9 h9 tk9 F9 N9; (try k_fold))
       | (intro u9 h9 tk9 F9 N9; (try k_fold)))))
  k_with "TnPost ~41" => ((dsimp only [TnPost]))
  k_with "TnEnd ~42" => ((refine TnEnd.intro (by assumption) (by assumption) (by (intro p hp; simp [hp])) ?_; first
       | (refine' ⟨_, _, _, _, ?hP, ?ha, ?hb, ?hz⟩; (case ha => with_unfolding_all rfl); (case hb => with_unfolding_all rfl); (case hP => k_extra "tnP"); (case hz => (intro z z1 z2 z3; (repeat (first | (refine fr_ne z1 ?_) | (refine fr_ne z2 ?_) | (refine fr_skip z3 ?_ ?hs; (case hs => first | rfl | decide)))); exact fr_last z3)))
       | (intro z z3; (repeat (refine fr_skip z3 ?_ ?hs; (case hs => first | rfl | decide))); exact fr_last z3)))
  k_with "inplaceOp FloorDiv int int ~43" => (((with_reducible show wpAny _ _ (inplaceOp Operator.FloorDiv (Value.int _ _) (Value.int _ _)) _ _ _); (refine ifloordiv_int ?m1 ?_ (Or.inl (Fit.noPylong (n := 9000) ?m2 (by decide))); (case m1 => first | omega | k_extra "ne"); (case m2 => k_extra "fit"))))
  k_with "pow" => exact Fit.powOk (Fit.small (by omega) (by omega)) ⟨by omega, by omega⟩ (by decide)
  k_with "mul" => first | exact Fit.mulOk (y_fit (by assumption) (by assumption)) (Fit.small (by omega) (by omega)) (by decide) | exact Fit.mulOk (p6_fit (by assumption)) (Fit.small (by omega) (by omega)) (by decide) | exact Fit.mulOk (Fit.small (by omega) (by omega)) (tb_fit (by assumption) (by assumption)) (by decide)
  k_with "str" => first | exact Fit.log2 (p6_fit (by assumption)) (by decide) (by decide) | exact Fit.log2 (pw_fit (by assumption) (by assumption) (by assumption) (by assumption)) (by decide) (by decide) | exact Fit.log2 (Fit.small (by omega) (by omega)) (by decide) (by decide)
  k_with "len" => first | exact Fit.len (p6_fit (by assumption)) (by decide) (by decide) | exact Fit.len (pw_fit (by assumption) (by assumption) (by assumption) (by assumption)) (by decide) (by decide) | exact Fit.len (Fit.small (by omega) (by omega)) (by decide) (by decide)
  k_with "ne" => exact Int.ne_of_gt (Int.pow_pos (by decide))
  k_with "fit" => exact Fit.mono (Fit.small (by omega) (by omega)) (by decide)
  k_with "dl2" => first | exact dlokA (by assumption) (by assumption) (by assumption) | exact dlokB (by assumption) (by assumption) (by assumption) (by assumption) (by assumption) | exact dlokC (by assumption) (by assumption) (by assumption) (by assumption) | exact dlokD (by assumption) (by assumption) (by assumption) (by assumption)
  k_with "isl" => first | exact P2_isl (P2_new (by assumption) (by assumption) (by assumption) (by assumption)) (by assumption) | exact P3_isl (P3_new (by assumption) (by assumption) (by assumption) (by assumption)) (by assumption) | exact l4a (by assumption) (by assumption) (by assumption) (by assumption) (by assumption) | exact l4b (by assumption) (by assumption) (by assumption) (by assumption) (by assumption)
  k_with "tnP" => first | exact P2_new (by assumption) (by assumption) (by assumption) (by assumption) | exact P3_new (by assumption) (by assumption) (by assumption) (by assumption)
  k_with "pyIter ref" => (k_of "x" => k_dat (fun pre out product => out.length ≤ 5 ∧ P6 out product) "factors*" "product")
  k_with "state" => first | exact ⟨by decide, P6_start⟩ | exact P6_keep (by assumption) | exact P6_step (P6_turn (by assumption) (by assumption) (by assumption) (by assumption) (by assumption))
  k_go0
  (all_goals try k_fold)
  k_steps))

end
end
end Mine
end
theorem PySem.Challenge.cw_dm0271_06_holds : PySem.Challenge.rw_dm0271_06.Holds :=
  Mine.t06
