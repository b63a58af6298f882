import PyProof.Rows.All
import Wide.All
import OpenK.AllK
import Wide.FinOn
import Lean
import PySem.Challenge.RW_dm0271_03
set_option Elab.async false
set_option maxRecDepth 100000
set_option maxHeartbeats 20000000
set_option linter.unusedVariables false
set_option rowWalk.seconds 0
section
namespace Mine
/-! bounds of the logarithm without a logarithm: lists of factors -/
theorem rlt_or_le (a b : Rat) : a < b ∨ b ≤ a := by
  by_cases h : a < b
  · exact Or.inl h
  · exact Or.inr (Rat.not_lt.mp h)
theorem rmul_pow (a b : Rat) : ∀ n : Nat, (a * b) ^ n = a ^ n * b ^ n
  | 0 => by simp only [Rat.pow_zero, Rat.mul_one]
  | n + 1 => by rw [Rat.pow_succ, Rat.pow_succ, Rat.pow_succ, rmul_pow a b n]; grind
theorem rsq_nonneg (x : Rat) : 0 ≤ x * x := by
  rcases rlt_or_le x 0 with h | h
  · have := Rat.mul_nonneg (show 0 ≤ -x by grind) (show 0 ≤ -x by grind)
    grind
  · exact Rat.mul_nonneg h h
theorem fld1 {n B A t : Rat} (hA : 0 < A) (e2 : (n + 1) * B = n * A + t) : 1 + (n + 1) * (B / A - 1) = t / A := by
  have h : A ≠ 0 := by grind
  have : (n + 1) * (B / A - 1) = ((n + 1) * B - (n + 1) * A) / A := by grind
  rw [this, e2]
  grind
theorem fld2 {t A P : Rat} (hA : 0 < A) : t / A * (P * A) = t * P := by
  have h : A ≠ 0 := by grind
  grind
theorem fld3 {A B : Rat} (hA : 0 < A) : B / A * A = B := by
  have h : A ≠ 0 := by grind
  grind
def pr : List Rat → Rat
  | [] => 1
  | t :: r => t * pr r
def sm : List Rat → Rat
  | [] => 0
  | t :: r => (t - 1) + sm r
theorem pr_append (a b : List Rat) : pr (a ++ b) = pr a * pr b := by
  induction a with
  | nil => simp [pr, Rat.one_mul]
  | cons t r ih => simp only [List.cons_append, pr, ih]; grind
theorem sm_append (a b : List Rat) : sm (a ++ b) = sm a + sm b := by
  induction a with
  | nil => simp [sm, Rat.zero_add]
  | cons t r ih => simp only [List.cons_append, sm, ih]; grind
theorem pr_pos {a : List Rat} (h : ∀ t ∈ a, 0 < t) : 0 < pr a := by
  induction a with
  | nil => simp only [pr]; decide
  | cons t r ih =>
    simp only [pr]
    exact Rat.mul_pos (h t (by simp)) (ih fun u hu => h u (by simp [hu]))
theorem bern (x : Rat) (hx : -1 ≤ x) : ∀ n : Nat, 1 + n * x ≤ (1 + x) ^ n
  | 0 => by simp only [Rat.pow_zero]; grind
  | n + 1 => by
    have ih := bern x hx n
    have h1 : 0 ≤ ((1 + x) ^ n - (1 + n * x)) * (1 + x) := Rat.mul_nonneg (by grind) (by grind)
    have h2 : 0 ≤ (n : Rat) * (x * x) := by
      exact Rat.mul_nonneg (by exact Rat.natCast_nonneg) (rsq_nonneg x)
    rw [Rat.pow_succ]
    push_cast
    grind
theorem rpow_pos {x : Rat} (h : 0 < x) (n : Nat) : 0 < x ^ n := Rat.pow_pos h
/-- the mean of a list, to its length, is no less than the product -/
theorem amgm1 (a : List Rat) (h : ∀ t ∈ a, 0 < t) (hn : a ≠ []) : pr a ≤ (1 + sm a / a.length) ^ a.length ∧ 0 < 1 + sm a / a.length := by
  induction a with
  | nil => exact absurd rfl hn
  | cons t r ih =>
    by_cases hr : r = []
    · subst hr
      simp only [pr, sm, List.length_cons, List.length_nil, Rat.pow_succ, Rat.pow_zero]
      have := h t (by simp)
      push_cast
      constructor <;> grind
    · obtain ⟨ih1, ih2⟩ := ih (fun u hu => h u (by simp [hu])) hr
      have ht := h t (by simp)
      have hl : 0 < r.length := by
        cases r with
        | nil => exact absurd rfl hr
        | cons => simp
      have hlq : (0 : Rat) < r.length := by exact_mod_cast hl
      -- A: the mean of r, B: the mean of all; (n + 1) B = n A + t
      generalize hA : 1 + sm r / r.length = A at *
      have e1 : sm r = r.length * (A - 1) := by
        rw [← hA]; grind
      simp only [pr, sm, List.length_cons]
      generalize hB : 1 + (t - 1 + sm r) / ((r.length + 1 : Nat) : Rat) = B
      have hnq : (0 : Rat) < ((r.length + 1 : Nat) : Rat) := by push_cast; grind
      have e2 : ((r.length + 1 : Nat) : Rat) * B = r.length * A + t := by
        rw [← hB, e1]
        have : ((r.length + 1 : Nat) : Rat) * (1 + (t - 1 + r.length * (A - 1)) / ((r.length + 1 : Nat) : Rat)) = ((r.length + 1 : Nat) : Rat) + (t - 1 + r.length * (A - 1)) := by grind
        rw [this]; push_cast; grind
      have hB0 : 0 < B := by
        have h1 : 0 < r.length * A + t := by
          have := Rat.mul_pos hlq ih2; grind
        rw [← e2] at h1
        rcases rlt_or_le 0 B with h2 | h2
        · exact h2
        · exfalso
          have := Rat.mul_nonneg (Rat.le_of_lt hnq) (show 0 ≤ -B by grind)
          grind
      refine ⟨?_, hB0⟩
      -- (B / A)^(n+1) ≥ 1 + (n+1) (B/A - 1) = t / A
      have b1 := bern (B / A - 1) (by
        have : 0 < B / A := by rw [Rat.div_def]; exact Rat.mul_pos hB0 (Rat.inv_pos.mpr ih2)
        grind) (r.length + 1)
      have e3 : 1 + ((r.length + 1 : Nat) : Rat) * (B / A - 1) = t / A := by
        push_cast at e2 ⊢
        exact fld1 ih2 e2
      rw [e3, show 1 + (B / A - 1) = B / A by grind] at b1
      have hAn := rpow_pos ih2 r.length
      have hAn1 := rpow_pos ih2 (r.length + 1)
      have e4 : (B / A) ^ (r.length + 1) * A ^ (r.length + 1) = B ^ (r.length + 1) := by
        rw [← rmul_pow, fld3 ih2]
      have b2 := Rat.mul_le_mul_of_nonneg_right b1 (Rat.le_of_lt hAn1)
      rw [e4] at b2
      have e5 : t / A * A ^ (r.length + 1) = t * A ^ r.length := by rw [Rat.pow_succ]; exact fld2 ih2
      rw [e5] at b2
      have b3 := Rat.mul_le_mul_of_nonneg_left ih1 (Rat.le_of_lt ht)
      grind
theorem amgm (a : List Rat) (h : ∀ t ∈ a, 0 < t) (h1 : 1 ≤ pr a) : 0 ≤ sm a := by
  by_cases hr : a = []
  · subst hr; simp [sm]
  · obtain ⟨h2, h3⟩ := amgm1 a h hr
    have hl : 0 < a.length := by
      cases a with
      | nil => exact absurd rfl hr
      | cons => simp
    have hlq : (0 : Rat) < a.length := by exact_mod_cast hl
    rcases rlt_or_le (sm a) 0 with h4 | h4
    · exfalso
      have h5 : 1 + sm a / a.length < 1 := by
        have : sm a / a.length < 0 := by
          rw [Rat.div_lt_iff hlq]; grind
        grind
      have h6 : (1 + sm a / a.length) ^ a.length < 1 := by
        generalize 1 + sm a / (a.length : Rat) = A at *
        have key : ∀ n : Nat, 0 < n → A ^ n < 1 := by
          intro n
          induction n with
          | zero => intro h; omega
          | succ n ih =>
            intro _
            rcases Nat.eq_zero_or_pos n with e | e
            · subst e; rw [Rat.pow_succ, Rat.pow_zero]; grind
            · have := ih e
              have hp := rpow_pos h3 n
              have h7 := Rat.mul_lt_mul_of_pos_left h5 hp
              rw [Rat.pow_succ]; grind
        exact key _ hl
      grind
    · exact h4

/-- r ≤ log q, up to every e -/
def Lg (r q : Rat) : Prop := ∀ e : Rat, 0 < e → ∃ a : List Rat, (∀ t ∈ a, 0 < t) ∧ 1 ≤ q * pr a ∧ r - e ≤ -sm a
/-- log q ≤ r, up to every e -/
def Ug (r q : Rat) : Prop := ∀ e : Rat, 0 < e → ∃ a : List Rat, (∀ t ∈ a, 0 < t) ∧ q ≤ pr a ∧ sm a ≤ r + e
theorem Lg.le {r s q : Rat} (h : Lg r q) (k : Ug s q) : r ≤ s := by
  rcases rlt_or_le s r with h1 | h1
  · exfalso
    obtain ⟨a, a1, a2, a3⟩ := h ((r - s) / 4) (by grind)
    obtain ⟨b, b1, b2, b3⟩ := k ((r - s) / 4) (by grind)
    have h2 : 1 ≤ pr (a ++ b) := by
      rw [pr_append]
      have := Rat.mul_le_mul_of_nonneg_right b2 (Rat.le_of_lt (pr_pos a1))
      grind
    have h3 := amgm (a ++ b) (by intro t ht; rcases List.mem_append.mp ht with h | h; exact a1 t h; exact b1 t h) h2
    rw [sm_append] at h3
    grind
  · exact h1
theorem Lg.add {r s q t : Rat} (h : Lg r q) (k : Lg s t) : Lg (r + s) (q * t) := by
  intro e he
  obtain ⟨a, a1, a2, a3⟩ := h (e / 2) (by grind)
  obtain ⟨b, b1, b2, b3⟩ := k (e / 2) (by grind)
  refine ⟨a ++ b, by intro t ht; rcases List.mem_append.mp ht with h | h; exact a1 t h; exact b1 t h, ?_, ?_⟩
  · rw [pr_append]
    have h1 : 0 ≤ t * pr b - 1 := by grind
    have h2 : 0 ≤ q * pr a - 1 := by grind
    have := Rat.mul_nonneg h1 h2
    grind
  · rw [sm_append]; grind
theorem Ug.add {r s q t : Rat} (ht : 0 < t) (h : Ug r q) (k : Ug s t) : Ug (r + s) (q * t) := by
  intro e he
  obtain ⟨a, a1, a2, a3⟩ := h (e / 2) (by grind)
  obtain ⟨b, b1, b2, b3⟩ := k (e / 2) (by grind)
  refine ⟨a ++ b, by intro t ht; rcases List.mem_append.mp ht with h | h; exact a1 t h; exact b1 t h, ?_, ?_⟩
  · rw [pr_append]
    have h1 := Rat.mul_nonneg (show 0 ≤ pr a - q by grind) (Rat.le_of_lt ht)
    have h2 := Rat.mul_nonneg (Rat.le_of_lt (pr_pos a1)) (show 0 ≤ pr b - t by grind)
    grind
  · rw [sm_append]; grind
theorem Lg.mono {r s q t : Rat} (h : Lg r q) (hs : s ≤ r) (hq : q ≤ t) : Lg s t := by
  intro e he
  obtain ⟨a, a1, a2, a3⟩ := h e he
  refine ⟨a, a1, ?_, by grind⟩
  have := Rat.mul_le_mul_of_nonneg_right hq (Rat.le_of_lt (pr_pos a1))
  grind
theorem Ug.mono {r s q t : Rat} (h : Ug r q) (hs : r ≤ s) (hq : t ≤ q) : Ug s t := by
  intro e he
  obtain ⟨a, a1, a2, a3⟩ := h e he
  exact ⟨a, a1, by grind, by grind⟩
theorem Lg.lim {r q : Rat} (h : ∀ e : Rat, 0 < e → Lg (r - e) q) : Lg r q := by
  intro e he
  obtain ⟨a, a1, a2, a3⟩ := h (e / 2) (by grind) (e / 2) (by grind)
  exact ⟨a, a1, a2, by grind⟩
theorem Ug.lim {r q : Rat} (h : ∀ e : Rat, 0 < e → Ug (r + e) q) : Ug r q := by
  intro e he
  obtain ⟨a, a1, a2, a3⟩ := h (e / 2) (by grind) (e / 2) (by grind)
  exact ⟨a, a1, a2, by grind⟩
/-- 1 - t ≤ log q where 1 / t ≤ q -/
theorem Lg.basic {t q : Rat} (ht : 0 < t) (h : 1 ≤ q * t) : Lg (1 - t) q := by
  intro e he
  refine ⟨[t], by simpa using ht, by simpa [pr, Rat.mul_one] using h, ?_⟩
  simp only [sm]; grind
theorem Ug.basic {q : Rat} (hq : 0 < q) : Ug (q - 1) q := by
  intro e he
  refine ⟨[q], by simpa using hq, ?_, ?_⟩
  · simp only [pr]; grind
  · simp only [sm]; grind
theorem Lg.zero : Lg 0 1 := (Lg.basic (t := 1) (q := 1) (by grind) (by grind)).mono (by grind) (by grind)
theorem Ug.zero : Ug 0 1 := (Ug.basic (q := 1) (by grind)).mono (by grind) (by grind)
theorem Lg.pow {r q : Rat} (h : Lg r q) : ∀ n : Nat, Lg (n * r) (q ^ n)
  | 0 => Lg.zero.mono (by simp [Rat.zero_mul]) (by simp [Rat.pow_zero])
  | n + 1 => by
    refine (Lg.add (Lg.pow h n) h).mono ?_ ?_
    · push_cast; grind
    · rw [Rat.pow_succ]; grind
theorem Ug.pow {r q : Rat} (hq : 0 < q) (h : Ug r q) : ∀ n : Nat, Ug (n * r) (q ^ n)
  | 0 => Ug.zero.mono (by simp [Rat.zero_mul]) (by simp [Rat.pow_zero])
  | n + 1 => by
    refine (Ug.add hq (Ug.pow hq h n) h).mono ?_ ?_
    · push_cast; grind
    · rw [Rat.pow_succ]; grind
end Mine

end
section
namespace Mine
theorem Lg.inv {r q : Rat} (hq : 0 < q) (h : Lg r q) : Ug (-r) q⁻¹ := by
  intro e he
  obtain ⟨a, a1, a2, a3⟩ := h e he
  refine ⟨a, a1, ?_, by grind⟩
  have h1 := Rat.mul_le_mul_of_nonneg_right a2 (Rat.le_of_lt (Rat.inv_pos.mpr hq))
  have h2 : q * pr a * q⁻¹ = pr a := by grind
  grind
theorem Ug.inv {r q : Rat} (hq : 0 < q) (h : Ug r q) : Lg (-r) q⁻¹ := by
  intro e he
  obtain ⟨a, a1, a2, a3⟩ := h e he
  refine ⟨a, a1, ?_, by grind⟩
  have h1 := Rat.mul_le_mul_of_nonneg_right a2 (Rat.le_of_lt (Rat.inv_pos.mpr hq))
  have h2 : q * q⁻¹ = 1 := by grind
  grind
theorem arch (x : Rat) : ∃ n : Nat, 0 < n ∧ x ≤ n := by
  refine ⟨(x.floor + 1).toNat + 1, by omega, ?_⟩
  have h := Rat.lt_floor (x := x)
  have h2 : x.floor + 1 ≤ (((x.floor + 1).toNat + 1 : Nat) : Int) := by omega
  have h3 : ((x.floor + 1 : Int) : Rat) ≤ ((((x.floor + 1).toNat + 1 : Nat) : Int) : Rat) := Rat.intCast_le_intCast.mpr h2
  rw [Rat.intCast_natCast] at h3
  have h4 : ((x.floor + 1 : Int) : Rat) = (x.floor : Rat) + 1 := by push_cast; rfl
  grind
theorem rdiv_pos {a b : Rat} (ha : 0 < a) (hb : 0 < b) : 0 < a / b := by
  rw [Rat.div_def]; exact Rat.mul_pos ha (Rat.inv_pos.mpr hb)
theorem rdiv_mul {a b c : Rat} (hb : 0 < b) : a / b * (b / c) = a / c := by
  have : b ≠ 0 := by grind
  by_cases hc : c = 0
  · subst hc; simp [Rat.div_def]
  · grind
/-- the step's size -/
theorem small_step {C d e : Rat} (hC : 0 ≤ C) (he : 0 < e) : ∃ n : Nat, 0 < n ∧ n * (C * ((d / n) * (d / n))) ≤ e := by
  obtain ⟨n, hn, h⟩ := arch (C * (d * d) / e)
  refine ⟨n, hn, ?_⟩
  have hq : (0 : Rat) < n := by exact_mod_cast hn
  have e1 : n * (C * ((d / n) * (d / n))) = C * (d * d) / n := by
    have : (n : Rat) ≠ 0 := by grind
    grind
  rw [e1]
  have h1 : C * (d * d) / e * e = C * (d * d) := fld3 he
  have h2 := Rat.mul_le_mul_of_nonneg_right h (Rat.le_of_lt he)
  rw [h1] at h2
  rcases rlt_or_le e (C * (d * d) / n) with h3 | h3
  · exfalso
    have h4 := Rat.mul_lt_mul_of_pos_right h3 hq
    rw [fld3 hq] at h4
    grind
  · exact h3
section
variable {F G : Rat → Rat} {a b C : Rat}
theorem pt_in {a b : Rat} {n i : Nat} (hab : a ≤ b) (hn : 0 < n) (hi : i ≤ n) : a ≤ a + i * ((b - a) / n) ∧ a + i * ((b - a) / n) ≤ b := by
  have hq : (0 : Rat) < n := by exact_mod_cast hn
  have hi0 : (0 : Rat) ≤ i := Rat.natCast_nonneg
  have hin : (i : Rat) ≤ n := by exact_mod_cast hi
  have hd : 0 ≤ (b - a) / n := by
    rw [Rat.div_def]; exact Rat.mul_nonneg (by grind) (Rat.le_of_lt (Rat.inv_pos.mpr hq))
  have h1 := Rat.mul_nonneg hi0 hd
  have h2 := Rat.mul_nonneg (show (0 : Rat) ≤ n - i by grind) hd
  have h3 : n * ((b - a) / n) = b - a := by
    have : (n : Rat) ≠ 0 := by grind
    grind
  constructor
  · grind
  · grind
theorem Lg.along (hab : a ≤ b) (hC : 0 ≤ C) (hG : ∀ x, a ≤ x → x ≤ b → 0 < G x)
    (h : ∀ x y, a ≤ x → x ≤ y → y ≤ b → F y - F x ≤ 1 - G x / G y + C * ((y - x) * (y - x))) : Lg (F b - F a) (G b / G a) := by
  refine Lg.lim fun e he => ?_
  obtain ⟨n, hn, hs⟩ := small_step (d := b - a) hC he
  have hq : (0 : Rat) < n := by exact_mod_cast hn
  have ha0 := hG a Rat.le_refl hab
  have key : ∀ i : Nat, i ≤ n → Lg (F (a + i * ((b - a) / n)) - F a - i * (C * (((b - a) / n) * ((b - a) / n)))) (G (a + i * ((b - a) / n)) / G a) := by
    intro i
    induction i with
    | zero =>
      intro _
      have e0 : a + ((0 : Nat) : Rat) * ((b - a) / n) = a := by push_cast; grind
      rw [e0]
      refine Lg.zero.mono ?_ ?_
      · push_cast; grind
      · have : G a / G a = 1 := by have : G a ≠ 0 := by grind
                                   grind
        grind
    | succ i ih =>
      intro hi
      have ih := ih (by omega)
      have p0 := pt_in hab hn (show i ≤ n by omega)
      have p1 := pt_in hab hn hi
      have e1 : a + ((i + 1 : Nat) : Rat) * ((b - a) / n) = (a + i * ((b - a) / n)) + (b - a) / n := by push_cast; grind
      have hd : 0 ≤ (b - a) / n := by
        rw [Rat.div_def]; exact Rat.mul_nonneg (by grind) (Rat.le_of_lt (Rat.inv_pos.mpr hq))
      rw [e1] at p1 ⊢
      generalize hx : a + (i : Rat) * ((b - a) / n) = x at *
      generalize hdd : (b - a) / n = d at *
      have g0 := hG x p0.1 p0.2
      have g1 := hG (x + d) p1.1 p1.2
      have st := h x (x + d) p0.1 (by grind) p1.2
      have bs := Lg.basic (t := G x / G (x + d)) (q := G (x + d) / G x) (rdiv_pos g0 g1) (by
        rw [rdiv_mul g0]
        have : G (x + d) / G (x + d) = 1 := by have : G (x + d) ≠ 0 := by grind
                                               grind
        grind)
      refine (Lg.add bs ih).mono ?_ ?_
      · push_cast; grind
      · rw [rdiv_mul g0]; grind
  have k := key n (Nat.le_refl n)
  have e2 : a + (n : Rat) * ((b - a) / n) = b := by
    have : (n : Rat) ≠ 0 := by grind
    grind
  rw [e2] at k
  exact k.mono (by grind) (by grind)
theorem Ug.along (hab : a ≤ b) (hC : 0 ≤ C) (hG : ∀ x, a ≤ x → x ≤ b → 0 < G x)
    (h : ∀ x y, a ≤ x → x ≤ y → y ≤ b → G y / G x - 1 ≤ F y - F x + C * ((y - x) * (y - x))) : Ug (F b - F a) (G b / G a) := by
  refine Ug.lim fun e he => ?_
  obtain ⟨n, hn, hs⟩ := small_step (d := b - a) hC he
  have hq : (0 : Rat) < n := by exact_mod_cast hn
  have ha0 := hG a Rat.le_refl hab
  have key : ∀ i : Nat, i ≤ n → Ug (F (a + i * ((b - a) / n)) - F a + i * (C * (((b - a) / n) * ((b - a) / n)))) (G (a + i * ((b - a) / n)) / G a) := by
    intro i
    induction i with
    | zero =>
      intro _
      have e0 : a + ((0 : Nat) : Rat) * ((b - a) / n) = a := by push_cast; grind
      rw [e0]
      refine Ug.zero.mono ?_ ?_
      · push_cast; grind
      · have : G a / G a = 1 := by have : G a ≠ 0 := by grind
                                   grind
        grind
    | succ i ih =>
      intro hi
      have ih := ih (by omega)
      have p0 := pt_in hab hn (show i ≤ n by omega)
      have p1 := pt_in hab hn hi
      have e1 : a + ((i + 1 : Nat) : Rat) * ((b - a) / n) = (a + i * ((b - a) / n)) + (b - a) / n := by push_cast; grind
      have hd : 0 ≤ (b - a) / n := by
        rw [Rat.div_def]; exact Rat.mul_nonneg (by grind) (Rat.le_of_lt (Rat.inv_pos.mpr hq))
      rw [e1] at p1 ⊢
      generalize hx : a + (i : Rat) * ((b - a) / n) = x at *
      generalize hdd : (b - a) / n = d at *
      have g0 := hG x p0.1 p0.2
      have g1 := hG (x + d) p1.1 p1.2
      have st := h x (x + d) p0.1 (by grind) p1.2
      have bs := Ug.basic (q := G (x + d) / G x) (rdiv_pos g1 g0)
      refine (Ug.add (rdiv_pos g0 ha0) bs ih).mono ?_ ?_
      · push_cast; grind
      · rw [rdiv_mul g0]; grind
  have k := key n (Nat.le_refl n)
  have e2 : a + (n : Rat) * ((b - a) / n) = b := by
    have : (n : Rat) ≠ 0 := by grind
    grind
  rw [e2] at k
  exact k.mono (by grind) (by grind)
end
end Mine

end
section
namespace Mine
theorem absmul {x e B : Rat} (h1 : -1 ≤ x) (h2 : x ≤ 1) (h3 : -B ≤ e) (h4 : e ≤ B) : -B ≤ x * e ∧ x * e ≤ B := by
  have a := Rat.mul_nonneg (show 0 ≤ 1 - x by grind) (show 0 ≤ B - e by grind)
  have b := Rat.mul_nonneg (show 0 ≤ 1 - x by grind) (show 0 ≤ B + e by grind)
  have c := Rat.mul_nonneg (show 0 ≤ 1 + x by grind) (show 0 ≤ B - e by grind)
  have d := Rat.mul_nonneg (show 0 ≤ 1 + x by grind) (show 0 ≤ B + e by grind)
  constructor <;> grind
theorem abspow {y z : Rat} (h0 : 0 ≤ y) (h1 : -y ≤ z) (h2 : z ≤ y) : ∀ n : Nat, -(y ^ n) ≤ z ^ n ∧ z ^ n ≤ y ^ n ∧ 0 ≤ y ^ n
  | 0 => by simp only [Rat.pow_zero]; grind
  | n + 1 => by
    obtain ⟨a, b, c⟩ := abspow h0 h1 h2 n
    rw [Rat.pow_succ, Rat.pow_succ]
    have k1 := Rat.mul_nonneg (show 0 ≤ y ^ n - z ^ n by grind) (show 0 ≤ y - z by grind)
    have k2 := Rat.mul_nonneg (show 0 ≤ y ^ n - z ^ n by grind) (show 0 ≤ y + z by grind)
    have k3 := Rat.mul_nonneg (show 0 ≤ y ^ n + z ^ n by grind) (show 0 ≤ y - z by grind)
    have k4 := Rat.mul_nonneg (show 0 ≤ y ^ n + z ^ n by grind) (show 0 ≤ y + z by grind)
    have k5 := Rat.mul_nonneg c h0
    refine ⟨?_, ?_, k5⟩ <;> grind
theorem one_rpow : ∀ n : Nat, (1 : Rat) ^ n = 1
  | 0 => Rat.pow_zero ..
  | n + 1 => by rw [Rat.pow_succ, one_rpow n, Rat.mul_one]
theorem abspow1 {z : Rat} (h1 : -1 ≤ z) (h2 : z ≤ 1) (n : Nat) : -1 ≤ z ^ n ∧ z ^ n ≤ 1 := by
  have := abspow (y := 1) (by grind) h1 h2 n
  rw [one_rpow] at this
  exact ⟨this.1, this.2.1⟩
/-- the tangent of a power -/
theorem pdiff {x y : Rat} (hx1 : -1 ≤ x) (hx2 : x ≤ 1) (hy1 : -1 ≤ y) (hy2 : y ≤ 1) : ∀ k : Nat,
    -(((k : Rat) + 1) * (k + 1) * ((x - y) * (x - y))) ≤ x ^ (k + 1) - y ^ (k + 1) - (k + 1) * y ^ k * (x - y) ∧ x ^ (k + 1) - y ^ (k + 1) - (k + 1) * y ^ k * (x - y) ≤ ((k : Rat) + 1) * (k + 1) * ((x - y) * (x - y))
  | 0 => by
    simp only [Rat.pow_succ, Rat.pow_zero]
    have := rsq_nonneg (x - y)
    push_cast
    constructor <;> grind
  | k + 1 => by
    obtain ⟨a, b⟩ := pdiff hx1 hx2 hy1 hy2 k
    have hd := rsq_nonneg (x - y)
    have hk : (0 : Rat) ≤ k := Rat.natCast_nonneg
    have hy := abspow1 hy1 hy2 k
    have m1 := absmul hx1 hx2 a b
    have m2 := absmul (B := ((k : Rat) + 1) * ((x - y) * (x - y))) (e := ((k : Rat) + 1) * ((x - y) * (x - y))) hy.1 hy.2 (by have := Rat.mul_nonneg (show (0 : Rat) ≤ k + 1 by grind) hd; grind) (by grind)
    have e : x ^ (k + 1 + 1) - y ^ (k + 1 + 1) - (((k + 1 : Nat) : Rat) + 1) * y ^ (k + 1) * (x - y) = x * (x ^ (k + 1) - y ^ (k + 1) - (k + 1) * y ^ k * (x - y)) + y ^ k * (((k : Rat) + 1) * ((x - y) * (x - y))) := by
      rw [Rat.pow_succ x (k + 1), Rat.pow_succ y (k + 1), Rat.pow_succ y k]
      push_cast
      generalize x ^ (k + 1) = X
      generalize y ^ k = Y
      grind
    rw [e]
    have h1 := Rat.mul_nonneg (show (0 : Rat) ≤ k + 1 by grind) hd
    have h2 : (((k + 1 : Nat) : Rat) + 1) * (((k + 1 : Nat) : Rat) + 1) * ((x - y) * (x - y)) = ((k : Rat) + 1) * (k + 1) * ((x - y) * (x - y)) + ((k : Rat) + 1) * ((x - y) * (x - y)) + ((k : Rat) + 1) * ((x - y) * (x - y)) + (x - y) * (x - y) := by push_cast; grind
    rw [h2]
    generalize (x - y) * (x - y) = d at *
    generalize x * (x ^ (k + 1) - y ^ (k + 1) - (k + 1) * y ^ k * (x - y)) = U at *
    generalize y ^ k * (((k : Rat) + 1) * d) = V at *
    constructor <;> grind
/-- the series of log (1 + v) -/
def lgS (v : Rat) : Nat → Rat
  | 0 => 0
  | k + 1 => lgS v k - (-v) ^ (k + 1) / (k + 1)
/-- its slope -/
def lgD (v : Rat) : Nat → Rat
  | 0 => 0
  | k + 1 => lgD v k + (-v) ^ k
theorem lgD_eq (v : Rat) : ∀ T : Nat, (1 + v) * lgD v T = 1 - (-v) ^ T
  | 0 => by simp only [lgD, Rat.pow_zero]; grind
  | T + 1 => by
    have := lgD_eq v T
    simp only [lgD, Rat.pow_succ]; grind
theorem lgS_diff {x y : Rat} (hx1 : -1 ≤ x) (hx2 : x ≤ 1) (hy1 : -1 ≤ y) (hy2 : y ≤ 1) : ∀ T : Nat,
    -((T : Rat) * T * ((x - y) * (x - y))) ≤ lgS y T - lgS x T - lgD y T * (y - x) ∧ lgS y T - lgS x T - lgD y T * (y - x) ≤ (T : Rat) * T * ((x - y) * (x - y))
  | 0 => by
    simp only [lgS, lgD]; push_cast; constructor <;> grind
  | T + 1 => by
    obtain ⟨a, b⟩ := lgS_diff hx1 hx2 hy1 hy2 T
    obtain ⟨c, d⟩ := pdiff (x := -x) (y := -y) (by grind) (by grind) (by grind) (by grind) T
    have hT : (0 : Rat) ≤ T := Rat.natCast_nonneg
    have hd := rsq_nonneg (x - y)
    simp only [lgS, lgD]
    have e1 : (-x - -y) * (-x - -y) = (x - y) * (x - y) := by grind
    rw [e1] at c d
    have e2 : lgS y T - (-y) ^ (T + 1) / (T + 1) - (lgS x T - (-x) ^ (T + 1) / (T + 1)) - (lgD y T + (-y) ^ T) * (y - x) = (lgS y T - lgS x T - lgD y T * (y - x)) + ((-x) ^ (T + 1) - (-y) ^ (T + 1) - (T + 1) * (-y) ^ T * (-x - -y)) / (T + 1) := by
      have : (T : Rat) + 1 ≠ 0 := by grind
      grind
    rw [e2]
    generalize lgS y T - lgS x T - lgD y T * (y - x) = U at *
    generalize (-x) ^ (T + 1) - (-y) ^ (T + 1) - (T + 1) * (-y) ^ T * (-x - -y) = V at *
    generalize (x - y) * (x - y) = D at *
    have h1 : V / ((T : Rat) + 1) ≤ ((T : Rat) + 1) * D := by
      have : V / ((T : Rat) + 1) * ((T : Rat) + 1) = V := fld3 (by grind)
      rcases rlt_or_le (((T : Rat) + 1) * D) (V / ((T : Rat) + 1)) with h | h
      · have := Rat.mul_lt_mul_of_pos_right h (show (0 : Rat) < T + 1 by grind)
        grind
      · exact h
    have h2 : -(((T : Rat) + 1) * D) ≤ V / ((T : Rat) + 1) := by
      have : V / ((T : Rat) + 1) * ((T : Rat) + 1) = V := fld3 (by grind)
      rcases rlt_or_le (V / ((T : Rat) + 1)) (-(((T : Rat) + 1) * D)) with h | h
      · have := Rat.mul_lt_mul_of_pos_right h (show (0 : Rat) < T + 1 by grind)
        grind
      · exact h
    have h3 := Rat.mul_nonneg hT hd
    push_cast
    constructor <;> grind
end Mine

end
section
namespace Mine
theorem rdiv_le {a b c : Rat} (hb : 0 < b) (h : a ≤ c * b) : a / b ≤ c := by
  rcases rlt_or_le c (a / b) with h1 | h1
  · exfalso
    have := Rat.mul_lt_mul_of_pos_right h1 hb
    rw [fld3 hb] at this
    grind
  · exact h1
theorem le_rdiv {a b c : Rat} (hb : 0 < b) (h : c * b ≤ a) : c ≤ a / b := by
  rcases rlt_or_le (a / b) c with h1 | h1
  · exfalso
    have := Rat.mul_lt_mul_of_pos_right h1 hb
    rw [fld3 hb] at this
    grind
  · exact h1
section
variable {s u : Rat}
/-- F' of the lower and the upper function -/
theorem tay_pt {s y : Rat} (hs : s = 1 ∨ s = -1) (h0 : 0 ≤ y) (h1 : 2 * y ≤ 1) (T : Nat) :
    (s * lgD (s * y) T - 2 * y ^ T) * (1 + s * y) ≤ s ∧ s ≤ (s * lgD (s * y) T + 2 * y ^ T) * (1 + s * y) := by
  have e := lgD_eq (s * y) T
  have hz : -y ≤ -(s * y) ∧ -(s * y) ≤ y := by rcases hs with h | h <;> subst h <;> constructor <;> grind
  obtain ⟨a, b, c⟩ := abspow h0 hz.1 hz.2 T
  have hg : (1 : Rat) ≤ 2 * (1 + s * y) := by rcases hs with h | h <;> subst h <;> grind
  have k := Rat.mul_nonneg c (show (0 : Rat) ≤ 2 * (1 + s * y) - 1 by grind)
  have e1 : s * lgD (s * y) T * (1 + s * y) = s - s * (-(s * y)) ^ T := by
    have : s * lgD (s * y) T * (1 + s * y) = s * ((1 + s * y) * lgD (s * y) T) := by grind
    rw [this, e]; grind
  generalize (-(s * y)) ^ T = Z at *
  generalize y ^ T = Y at *
  generalize lgD (s * y) T = D at *
  rcases hs with h | h <;> subst h <;> constructor <;> grind
/-- lower and upper function -/
def tayF (s σ : Rat) (T : Nat) (x : Rat) : Rat := lgS (s * x) T + σ * (2 * x ^ (T + 1) / (T + 1))
theorem tayF_diff {s σ x y : Rat} (hs : s = 1 ∨ s = -1) (hσ : σ = 1 ∨ σ = -1) (hx0 : 0 ≤ x) (hx1 : x ≤ 1) (hy0 : 0 ≤ y) (hy1 : y ≤ 1) (T : Nat) :
    -(((T : Rat) * T + 2 * (T + 1)) * ((y - x) * (y - x))) ≤ tayF s σ T y - tayF s σ T x - (s * lgD (s * y) T + σ * (2 * y ^ T)) * (y - x) ∧
    tayF s σ T y - tayF s σ T x - (s * lgD (s * y) T + σ * (2 * y ^ T)) * (y - x) ≤ (((T : Rat) * T + 2 * (T + 1)) * ((y - x) * (y - x))) := by
  obtain ⟨a, b⟩ := lgS_diff (x := s * x) (y := s * y) (by rcases hs with h | h <;> subst h <;> grind) (by rcases hs with h | h <;> subst h <;> grind) (by rcases hs with h | h <;> subst h <;> grind) (by rcases hs with h | h <;> subst h <;> grind) T
  obtain ⟨c, d⟩ := pdiff (x := x) (y := y) (by grind) (by grind) (by grind) (by grind) T
  have hT : (0 : Rat) ≤ T := Rat.natCast_nonneg
  have e0 : (s * x - s * y) * (s * x - s * y) = (y - x) * (y - x) := by rcases hs with h | h <;> subst h <;> grind
  have e0' : (x - y) * (x - y) = (y - x) * (y - x) := by grind
  rw [e0] at a b
  rw [e0'] at c d
  unfold tayF
  have e1 : lgS (s * y) T + σ * (2 * y ^ (T + 1) / (T + 1)) - (lgS (s * x) T + σ * (2 * x ^ (T + 1) / (T + 1))) - (s * lgD (s * y) T + σ * (2 * y ^ T)) * (y - x)
      = (lgS (s * y) T - lgS (s * x) T - lgD (s * y) T * (s * y - s * x)) - σ * (2 * ((x ^ (T + 1) - y ^ (T + 1) - (T + 1) * y ^ T * (x - y)) / (T + 1))) := by
    have : (T : Rat) + 1 ≠ 0 := by grind
    grind
  rw [e1]
  generalize lgS (s * y) T - lgS (s * x) T - lgD (s * y) T * (s * y - s * x) = U at *
  generalize x ^ (T + 1) - y ^ (T + 1) - (T + 1) * y ^ T * (x - y) = V at *
  generalize (y - x) * (y - x) = D at *
  have h1 : V / ((T : Rat) + 1) ≤ ((T : Rat) + 1) * D := rdiv_le (by grind) (by grind)
  have h2 : -(((T : Rat) + 1) * D) ≤ V / ((T : Rat) + 1) := le_rdiv (by grind) (by grind)
  generalize V / ((T : Rat) + 1) = W at *
  rcases hσ with h | h <;> subst h <;> constructor <;> grind
theorem tay_lo (hs : s = 1 ∨ s = -1) (h0 : 0 ≤ u) (h1 : 2 * u ≤ 1) (T : Nat) : Lg (lgS (s * u) T - 2 * u ^ (T + 1) / (T + 1)) (1 + s * u) := by
  have hT : (0 : Rat) ≤ T := Rat.natCast_nonneg
  have key := Lg.along (F := tayF s (-1) T) (G := fun x => 1 + s * x) (a := 0) (b := u) (C := (T : Rat) * T + 2 * (T + 1)) h0 (by have := Rat.mul_nonneg hT hT; grind)
    (by intro x hx hx2; rcases hs with h | h <;> subst h <;> grind) (by
      intro x y hx hxy hy
      have hp := (tay_pt hs (y := y) (by grind) (by grind) T).1
      have hd := (tayF_diff (σ := -1) hs (Or.inr rfl) hx (by grind) (show 0 ≤ y by grind) (by grind) T).2
      have g : 0 < 1 + s * y := by rcases hs with h | h <;> subst h <;> grind
      have e : 1 - (1 + s * x) / (1 + s * y) = s / (1 + s * y) * (y - x) := by
        have : 1 + s * y ≠ 0 := by grind
        grind
      have h2 : s * lgD (s * y) T - 2 * y ^ T ≤ s / (1 + s * y) := le_rdiv g hp
      have h3 := Rat.mul_nonneg (show 0 ≤ s / (1 + s * y) - (s * lgD (s * y) T - 2 * y ^ T) by grind) (show 0 ≤ y - x by grind)
      show _ ≤ 1 - (1 + s * x) / (1 + s * y) + _
      rw [e]
      generalize s / (1 + s * y) = A at *
      generalize lgD (s * y) T = B at *
      grind)
  refine key.mono ?_ ?_
  · unfold tayF
    have e0 : lgS (s * 0) T = 0 := by
      rw [Rat.mul_zero]
      have : ∀ T, lgS 0 T = 0 := by
        intro T
        induction T with
        | zero => rfl
        | succ T ih => simp only [lgS, ih, Rat.pow_succ]; grind
      exact this T
    rw [e0, show (0 : Rat) ^ (T + 1) = 0 by rw [Rat.pow_succ, Rat.mul_zero]]
    grind
  · have : (1 + s * u) / (1 + s * 0) = 1 + s * u := by rw [Rat.mul_zero]; grind
    show (1 + s * u) / (1 + s * 0) ≤ _
    rw [this]
    grind
theorem tay_hi (hs : s = 1 ∨ s = -1) (h0 : 0 ≤ u) (h1 : 2 * u ≤ 1) (T : Nat) : Ug (lgS (s * u) T + 2 * u ^ (T + 1) / (T + 1)) (1 + s * u) := by
  have hT : (0 : Rat) ≤ T := Rat.natCast_nonneg
  have key := Ug.along (F := tayF s 1 T) (G := fun x => 1 + s * x) (a := 0) (b := u) (C := (T : Rat) * T + 2 * (T + 1) + 4) h0 (by have := Rat.mul_nonneg hT hT; grind)
    (by intro x hx hx2; rcases hs with h | h <;> subst h <;> grind) (by
      intro x y hx hxy hy
      have hp := (tay_pt hs (y := y) (by grind) (by grind) T).2
      have hd := (tayF_diff (σ := 1) hs (Or.inl rfl) hx (by grind) (show 0 ≤ y by grind) (by grind) T).1
      have g : 0 < 1 + s * y := by rcases hs with h | h <;> subst h <;> grind
      have g' : 0 < 1 + s * x := by rcases hs with h | h <;> subst h <;> grind
      have gb : (1 : Rat) ≤ 2 * (1 + s * y) := by rcases hs with h | h <;> subst h <;> grind
      have gb' : (1 : Rat) ≤ 2 * (1 + s * x) := by rcases hs with h | h <;> subst h <;> grind
      have e : (1 + s * y) / (1 + s * x) - 1 = s / (1 + s * x) * (y - x) := by
        have : 1 + s * x ≠ 0 := by grind
        grind
      have h2 : s / (1 + s * y) ≤ s * lgD (s * y) T + 2 * y ^ T := rdiv_le g hp
      have h3 := Rat.mul_nonneg (show 0 ≤ (s * lgD (s * y) T + 2 * y ^ T) - s / (1 + s * y) by grind) (show 0 ≤ y - x by grind)
      have h4 : s / (1 + s * x) ≤ s / (1 + s * y) + 4 * (y - x) := by
        refine rdiv_le g' ?_
        have e5 : s / (1 + s * y) * (1 + s * x) = s - s / (1 + s * y) * (s * (y - x)) := by
          have : 1 + s * y ≠ 0 := by grind
          grind
        have e6 : s / (1 + s * y) * (s * (y - x)) = (y - x) / (1 + s * y) := by
          have : 1 + s * y ≠ 0 := by grind
          rcases hs with h | h <;> subst h <;> grind
        have e7 : (y - x) / (1 + s * y) ≤ 2 * (y - x) := rdiv_le g (by
          have := Rat.mul_nonneg (show 0 ≤ y - x by grind) (show (0 : Rat) ≤ 2 * (1 + s * y) - 1 by grind)
          grind)
        have e8 := Rat.mul_nonneg (show 0 ≤ y - x by grind) (show (0 : Rat) ≤ 2 * (1 + s * x) - 1 by grind)
        rw [Rat.add_mul, e5, e6]
        grind
      have h5 := Rat.mul_nonneg (show 0 ≤ s / (1 + s * y) + 4 * (y - x) - s / (1 + s * x) by grind) (show 0 ≤ y - x by grind)
      show (1 + s * y) / (1 + s * x) - 1 ≤ _
      rw [e]
      generalize s / (1 + s * y) = A at *
      generalize s / (1 + s * x) = A' at *
      generalize lgD (s * y) T = B at *
      grind)
  refine key.mono ?_ ?_
  · unfold tayF
    have e0 : lgS (s * 0) T = 0 := by
      rw [Rat.mul_zero]
      have : ∀ T, lgS 0 T = 0 := by
        intro T
        induction T with
        | zero => rfl
        | succ T ih => simp only [lgS, ih, Rat.pow_succ]; grind
      exact this T
    rw [e0, show (0 : Rat) ^ (T + 1) = 0 by rw [Rat.pow_succ, Rat.mul_zero]]
    grind
  · have : (1 + s * u) / (1 + s * 0) = 1 + s * u := by rw [Rat.mul_zero]; grind
    show _ ≤ (1 + s * u) / (1 + s * 0)
    rw [this]
    grind
end
end Mine

end
section
open PySem PySem.W PyProof.Rows
section
open PySem PySem.W PyProof.Rows
namespace Mine
/-- fewer than n bits -/
def Fit (n : Nat) (x : Int) : Prop := x.natAbs < 2 ^ n
theorem Fit.mono {n m : Nat} {x : Int} (h : Fit n x) (hm : n ≤ m) : Fit m x :=
  Nat.lt_of_lt_of_le h (Nat.pow_le_pow_right (by decide) hm)
theorem Fit.bits {n : Nat} {x : Int} (h : Fit n x) : Builtin.Int.intBits x ≤ n := by
  unfold Builtin.Int.intBits
  split
  · omega
  · rename_i hx
    have h0 : x.natAbs ≠ 0 := by
      intro e; apply hx; simp; omega
    have := (Nat.log2_lt h0).mpr h
    omega
theorem Fit.mul {n m : Nat} {x y : Int} (hx : Fit n x) (hy : Fit m y) : Fit (n + m) (x * y) := by
  unfold Fit at *
  rw [Int.natAbs_mul, Nat.pow_add]
  exact Nat.mul_lt_mul'' hx hy
theorem Fit.add {n m : Nat} {x y : Int} (hx : Fit n x) (hy : Fit m y) : Fit (n + m + 1) (x + y) := by
  unfold Fit at *
  have h1 : 2 ^ n ≤ 2 ^ (n + m) := Nat.pow_le_pow_right (by decide) (by omega)
  have h2 : 2 ^ m ≤ 2 ^ (n + m) := Nat.pow_le_pow_right (by decide) (by omega)
  have h3 : 2 ^ (n + m + 1) = 2 * 2 ^ (n + m) := by rw [Nat.pow_succ]; omega
  omega
theorem Fit.neg {n : Nat} {x : Int} (hx : Fit n x) : Fit n (-x) := by
  unfold Fit at *; omega
theorem Fit.sub {n m : Nat} {x y : Int} (hx : Fit n x) (hy : Fit m y) : Fit (n + m + 1) (x - y) := by
  rw [Int.sub_eq_add_neg]; exact hx.add hy.neg
theorem Fit.mulOk {n m : Nat} {x y : Int} (hx : Fit n x) (hy : Fit m y) (h : n + m ≤ 1000000) : IntMulOk x y := by
  have h1 := hx.bits
  have h2 := hy.bits
  unfold IntMulOk Builtin.Int.intTooBig
  intro hh
  simp only [Bool.and_eq_true, decide_eq_true_eq] at hh
  have h3 := hh.2
  have : ((bitsLine : Nat) : Int) = 134217728 := by decide +kernel
  rw [this] at h3
  omega
theorem Fit.noPylong {n : Nat} {x y : Int} (hy : Fit n y) (h : n ≤ 9000) : Builtin.divisionGoesByPylong x y = false := by
  refine PyProof.noPylong_of_log2 ?_
  by_cases h0 : y.natAbs = 0
  · rw [h0]; decide +kernel
  · exact (Nat.log2_lt h0).mpr (Fit.mono hy h)
end Mine

end
section
open PySem PySem.W PyProof.Rows
namespace Mine
/-- a call of f with vs gives back an int r with P r, and leaves all as it was -/
abbrev ConI (prog : Program) (w : World) (K : Frag) (p : Program) (loose : List Str) (mean : ExcName → Option Value) (mg mb : Str → Option Value) (d : Nat) (f : Addr) (vs : List Value) (P : Int → Prop) : Prop :=
  ∀ (news : List (Addr × Obj)) (dp un : Nat) (gd : Option (List Code)) (cn : Str) (cs : Scope) (a : Addr) (ccd : Value) (cl : List (Str × Addr)) (outer : List Env) (A₀ : Around) (base h₀ : Heap) (L : Addr) (m : Str → Option Value) (s : Shared) (Q E : Value → Shared → Prop),
    Below A₀ base outer h₀ → Fr h₀ L s.heap m → K.In h₀ → News h₀ L s.heap news → Top p loose mean mg mb h₀ → cs.kind = .function →
    dp + d < recursionLimit → un + 8 * d < cLine →
    (∀ (r : Int) (t : Tok) (h' : Heap) (tk' : Nat), P r → Fr h₀ L h' m → News h₀ L h' news → Q (.int r t) { s with heap := h', toks := tk' }) →
      wpAny (model prog w) (ktrTop dp un gd cn cs L a ccd cl outer) (call (.ref f) vs) Q E s
/-- the same with the very int -/
abbrev ConX (prog : Program) (w : World) (K : Frag) (p : Program) (loose : List Str) (mean : ExcName → Option Value) (mg mb : Str → Option Value) (d : Nat) (f : Addr) (vs : List Value) (r : Int) : Prop :=
  ∀ (news : List (Addr × Obj)) (dp un : Nat) (gd : Option (List Code)) (cn : Str) (cs : Scope) (a : Addr) (ccd : Value) (cl : List (Str × Addr)) (outer : List Env) (A₀ : Around) (base h₀ : Heap) (L : Addr) (m : Str → Option Value) (s : Shared) (Q E : Value → Shared → Prop),
    Below A₀ base outer h₀ → Fr h₀ L s.heap m → K.In h₀ → News h₀ L s.heap news → Top p loose mean mg mb h₀ → cs.kind = .function →
    dp + d < recursionLimit → un + 8 * d < cLine →
    (∀ (t : Tok) (h' : Heap) (tk' : Nat), Fr h₀ L h' m → News h₀ L h' news → Q (.int r t) { s with heap := h', toks := tk' }) →
      wpAny (model prog w) (ktrTop dp un gd cn cs L a ccd cl outer) (call (.ref f) vs) Q E s
theorem con_retI {h₀ h' : Heap} {L : Addr} {m : Str → Option Value} {news news' : List (Addr × Obj)} {s : Shared} {Q : Value → Shared → Prop} {P : Int → Prop} {r : Int} {t : Tok} {tk' : Nat}
   (hret : ∀ (r : Int) (t : Tok) (h' : Heap) (tk' : Nat), P r → Fr h₀ L h' m → News h₀ L h' news → Q (.int r t) { s with heap := h', toks := tk' })
   (hp : P r) (F : Fr h₀ L h' m) (N : News h₀ L h' news') (hs : ∀ p ∈ news, p ∈ news') : Q (.int r t) { s with heap := h', toks := tk' } :=
  hret _ _ _ _ hp F fun p hp => N p (hs p hp)
theorem con_retX {h₀ h' : Heap} {L : Addr} {m : Str → Option Value} {news news' : List (Addr × Obj)} {s : Shared} {Q : Value → Shared → Prop} {x r : Int} {t : Tok} {tk' : Nat}
   (hret : ∀ (t : Tok) (h' : Heap) (tk' : Nat), Fr h₀ L h' m → News h₀ L h' news → Q (.int x t) { s with heap := h', toks := tk' })
   (hp : r = x) (F : Fr h₀ L h' m) (N : News h₀ L h' news') (hs : ∀ p ∈ news, p ∈ news') : Q (.int r t) { s with heap := h', toks := tk' } := by
  subst hp
  exact hret _ _ _ F fun p hp => N p (hs p hp)
/-- nearest of a / b, ties to even -/
def divN (a b : Int) : Int := a / b + (if b < 2 * (a % b) + a / b % 2 then 1 else 0)
theorem divN_walk {a b : Int} (hb : 0 < b) : (a.fdiv b + if decide (b < 2 * a.fmod b + Builtin.bitAnd (a.fdiv b) 1) = true then 1 else 0) = divN a b := by
  unfold divN
  rw [bitAnd_m1, Int.fdiv_eq_ediv_of_nonneg _ (by omega), Int.fmod_eq_emod_of_nonneg _ (by omega)]
  simp
end Mine
namespace Mine
theorem rshN_walk {x : Int} {n : Nat} : (x.fdiv (2 ^ n) + if decide (1 * 2 ^ n < 2 * Builtin.bitAnd x (1 * 2 ^ n - 1) + Builtin.bitAnd (x.fdiv (2 ^ n)) 1) = true then 1 else 0) = divN x (2 ^ n) := by
  have h : (0 : Int) < 2 ^ n := Int.pow_pos (by decide)
  rw [Int.one_mul, kbt_mask, ← divN_walk h, Int.fmod_eq_emod_of_nonneg _ (by omega)]
theorem isq_nonneg (a : Int) : 0 ≤ a * a := by
  rcases Int.le_total 0 a with h | h
  · exact Int.mul_nonneg h h
  · exact Int.mul_nonneg_of_nonpos_of_nonpos h h
/-- one turn of Newton's -/
def sqStep (n a : Int) : Int := (a - (-n) / a) / 2
theorem sqStep_lo {n a : Int} (hn : 0 < n) (ha : 0 < a) : 0 < sqStep n a ∧ n ≤ sqStep n a * sqStep n a + sqStep n a := by
  unfold sqStep
  generalize hq : (-n) / a = q
  have e1 := Int.mul_ediv_add_emod (-n) a
  have e2 := Int.emod_nonneg (-n) (b := a) (by omega)
  have e3 := Int.emod_lt_of_pos (-n) ha
  rw [hq] at e1
  generalize hr : (-n) % a = r at *
  generalize hz : (a - q) / 2 = z
  -- -n = a q + r, 0 ≤ r < a; c := -q ≥ n/a, c ≥ 1
  have hq0 : q < 0 := by
    rcases Int.lt_or_le q 0 with h | h
    · exact h
    · have := Int.mul_nonneg (Int.le_of_lt ha) h; omega
  have hz2 : 2 * z ≤ a - q ∧ a - q ≤ 2 * z + 1 := by omega
  have hz0 : 0 < z := by omega
  refine ⟨hz0, ?_⟩
  -- n ≤ a * (-q), (a - q)^2 ≥ 4 a (-q) ; (2z+1)^2 ≥ (a-q)^2
  have h1 : n ≤ a * (-q) := by have : a * (-q) = -(a * q) := by rw [Int.mul_neg]
                               omega
  have h2 : 4 * (a * (-q)) ≤ (a - q) * (a - q) := by
    have := isq_nonneg (a + q)
    grind
  have h3 : (a - q) * (a - q) ≤ (2 * z + 1) * (2 * z + 1) := Int.mul_le_mul hz2.2 hz2.2 (by omega) (by omega)
  have h4 : (2 * z + 1) * (2 * z + 1) = 4 * (z * z + z) + 1 := by grind
  omega
theorem sqStep_fix {n a : Int} (ha : 0 < a) (h : sqStep n a = a) : a * a - a < n ∧ n ≤ a * a + a := by
  unfold sqStep at h
  have e1 := Int.mul_ediv_add_emod (-n) a
  have e2 := Int.emod_nonneg (-n) (b := a) (by omega)
  have e3 := Int.emod_lt_of_pos (-n) ha
  generalize hq : (-n) / a = q at *
  generalize hr : (-n) % a = r at *
  have : -(a + 1) ≤ q ∧ q ≤ -a := by omega
  have h5 : q = -a ∨ q = -(a+1) := by omega
  rcases h5 with h5 | h5 <;> subst h5 <;> constructor <;> grind
theorem sqStep_less {n a : Int} (ha : 0 < a) (h : sqStep n a ≠ a) (hn : n ≤ a * a + a) : sqStep n a < a := by
  unfold sqStep at *
  have e1 := Int.mul_ediv_add_emod (-n) a
  have e2 := Int.emod_nonneg (-n) (b := a) (by omega)
  have e3 := Int.emod_lt_of_pos (-n) ha
  generalize hq : (-n) / a = q at *
  generalize hr : (-n) % a = r at *
  rcases Int.lt_or_le (a + 1) (-q) with h1 | h1
  · exfalso
    have h2 : a * q ≤ a * (-(a + 2)) := Int.mul_le_mul_of_nonneg_left (by omega) (by omega)
    have h3 : a * (-(a+2)) = -(a * a) - 2 * a := by grind
    omega
  · omega
/-- the nearest to the root of n -/
def IsSq (n r : Int) : Prop := 0 < r ∧ r * r - r < n ∧ n ≤ r * r + r
theorem IsSq.unique {n r s : Int} (h : IsSq n r) (k : IsSq n s) : r = s := by
  obtain ⟨a1, a2, a3⟩ := h
  obtain ⟨b1, b2, b3⟩ := k
  rcases Int.lt_trichotomy r s with h | h | h
  · exfalso
    have : (r + 1) * (r + 1) ≤ s * s := Int.mul_le_mul (by omega) (by omega) (by omega) (by omega)
    have h5 : (s - r - 1) * (s + r) ≥ 0 := Int.mul_nonneg (by omega) (by omega)
    grind
  · exact h
  · exfalso
    have h5 : (r - s - 1) * (r + s) ≥ 0 := Int.mul_nonneg (by omega) (by omega)
    grind
end Mine

namespace Mine
theorem sqStep_hi {n a z : Int} (hn : 0 < n) (ha : 0 < a) (hz : a ≤ z + n) (hz0 : 0 < z) : sqStep n a ≤ z + n := by
  unfold sqStep
  have e1 := Int.mul_ediv_add_emod (-n) a
  have e2 := Int.emod_nonneg (-n) (b := a) (by omega)
  have e3 := Int.emod_lt_of_pos (-n) ha
  generalize hq : (-n) / a = q at *
  generalize hr : (-n) % a = r at *
  have : -n ≤ q := by
    rcases Int.lt_or_le q (-n) with h | h
    · exfalso
      have h2 : a * q ≤ a * (-n - 1) := Int.mul_le_mul_of_nonneg_left (by omega) (by omega)
      have h3 : a * (-n - 1) = -(a * n) - a := by grind
      have h4 : n ≤ a * n := by
        have : 1 * n ≤ a * n := Int.mul_le_mul_of_nonneg_right (by omega) (by omega)
        omega
      omega
    · exact h
  omega
def sqMeas (n b a : Int) : Nat := if n ≤ a * a + a then 2 * a.toNat + (if a = b then 0 else 1) else 2 * (a.toNat + n.toNat) + 10
theorem sqMeas_less {n b a : Int} (hn : 0 < n) (ha : 0 < a) (hab : a ≠ b) : sqMeas n a (sqStep n a) < sqMeas n b a := by
  have ⟨h0, h1⟩ := sqStep_lo hn ha
  have h2 := sqStep_hi (z := a) hn ha (by omega) ha
  unfold sqMeas
  rw [if_pos h1, if_neg hab]
  by_cases e : sqStep n a = a
  · rw [if_pos e]; split <;> omega
  · rw [if_neg e]
    split
    · rename_i h
      have := sqStep_less ha e h
      omega
    · omega
end Mine
namespace Mine
theorem Fit.of_le {k : Nat} {x y : Int} (h : Fit k y) (h1 : -y ≤ x) (h2 : x ≤ y) : Fit k x := by
  unfold Fit at *; omega
theorem sq_walk {n a : Int} (ha : 0 < a) : (a - (-n).fdiv a).fdiv (2 ^ Int.toNat 1) = sqStep n a := by
  unfold sqStep
  rw [Int.fdiv_eq_ediv_of_nonneg _ (b := 2 ^ Int.toNat 1) (by decide), Int.fdiv_eq_ediv_of_nonneg _ (b := a) (by omega)]
  rfl
theorem sq_turn {n z a : Int} (hn : 0 < n) (hz : 0 < z) (ha : 0 < a) (h : a ≤ z + n) :
    0 < (a - (-n).fdiv a).fdiv (2 ^ Int.toNat 1) ∧ (a - (-n).fdiv a).fdiv (2 ^ Int.toNat 1) ≤ z + n ∧ (a = 0 ∨ (0 < a ∧ (a - (-n).fdiv a).fdiv (2 ^ Int.toNat 1) = sqStep n a)) := by
  rw [sq_walk ha]
  exact ⟨(sqStep_lo hn ha).1, sqStep_hi hn ha h hz, Or.inr ⟨ha, rfl⟩⟩
theorem sq_meas {n b a : Int} (hn : 0 < n) (ha : 0 < a) (hab : a ≠ b) : sqMeas n a ((a - (-n).fdiv a).fdiv (2 ^ Int.toNat 1)) < sqMeas n b a := by
  rw [sq_walk ha]
  exact sqMeas_less hn ha hab
theorem sq_out {n a b : Int} (ha : 0 < a) (h : b = 0 ∨ 0 < b ∧ a = sqStep n b) (e : a = b) : IsSq n a := by
  subst e
  rcases h with h | h
  · omega
  · exact ⟨ha, sqStep_fix ha h.2.symm⟩
end Mine
namespace Mine
theorem Fit.log2 {n : Nat} {x : Int} (h : Fit n x) (hn : n ≤ 1920) (h0 : 0 < n): x.natAbs.log2 < 1920 := by
  by_cases h1 : x.natAbs = 0
  · rw [h1]; decide +kernel
  · have := (Nat.log2_lt h1).mpr h
    omega
theorem Fit.len {n : Nat} {x : Int} (h : Fit n x) (hn : n ≤ 1920) (h0 : 0 < n) : ¬ (((Str.ofString (toString x)).length : Nat) : Int) ≥ 2 ^ 63 := by
  have e := int_text_length_le (k := 1920) (by decide) (h.log2 hn h0)
  rw [PySem.ofString_length]
  have : (2 : Int) ^ 63 = 9223372036854775808 := by decide
  omega
/-- len(str(x)) -/
def nd (x : Int) : Nat := (Str.ofString (toString x)).length
theorem nd_le {x : Int} {k : Nat} (hx : 0 ≤ x) (hk : 0 < k) : nd x ≤ k ↔ x < 10 ^ k := by
  unfold nd
  rw [PySem.ofString_length]
  obtain ⟨m, rfl⟩ := Int.eq_ofNat_of_zero_le hx
  have e : toString (Int.ofNat m) = Nat.repr m := rfl
  show (toString (Int.ofNat m)).length ≤ k ↔ _
  rw [e, Nat.length_repr_le_iff hk]
  have : ((10 : Int) ^ k) = ((10 ^ k : Nat) : Int) := by simp
  rw [this]
  omega
theorem nd_eq {x : Int} {k : Nat} (h1 : 10 ^ k ≤ x) (h2 : x < 10 ^ (k + 1)) : nd x = k + 1 := by
  have h0 : (0 : Int) < 10 ^ k := Int.pow_pos (by decide)
  have a := (nd_le (x := x) (k := k + 1) (by omega) (by omega)).mpr h2
  rcases Nat.eq_zero_or_pos k with hk | hk
  · subst hk
    have : 0 < nd x := by
      unfold nd
      rw [PySem.ofString_length]
      obtain ⟨m, rfl⟩ := Int.eq_ofNat_of_zero_le (show 0 ≤ x by omega)
      have e : toString (Int.ofNat m) = Nat.repr m := rfl
      show 0 < (toString (Int.ofNat m)).length
      rw [e]
      exact Nat.length_repr_pos
    omega
  · have b := mt (nd_le (x := x) (k := k) (by omega) hk).mp (by omega)
    omega
/-- the reductions of _ilog: RedTo x M R y: y after R turns -/
inductive RedTo (x M : Int) : Nat → Int → Prop where
  | zero : RedTo x M 0 (x - M)
  | succ {R : Nat} {y s : Int} : RedTo x M R y → M * 2 ^ R ≤ 256 * (y.natAbs : Int) → IsSq (M * (M + divN y (2 ^ R))) s → RedTo x M (R + 1) (divN (M * y * 2) (M + s))
/-- the terms of the series -/
def tays (p : Nat) : Nat := (10 * (p + 1) + 23) / 24
/-- the Horner loop -/
def horn (M ys w : Int) (ks : List Int) : Int := ks.foldl (fun w k => divN M k - divN (ys * w) M) w
end Mine
namespace Mine
theorem divN_bounds (a : Int) {b : Int} (hb : 0 < b) : 2 * a - b ≤ 2 * (divN a b * b) ∧ 2 * (divN a b * b) ≤ 2 * a + b := by
  unfold divN
  have e1 := Int.mul_ediv_add_emod a b
  have e2 := Int.emod_nonneg a (b := b) (by omega)
  have e3 := Int.emod_lt_of_pos a hb
  generalize hq : a / b = q at *
  generalize hr : a % b = r at *
  have e4 : (q + 1) * b = b * q + b := by grind
  have e5 : q * b = b * q := Int.mul_comm _ _
  split
  · rw [e4]; omega
  · rw [Int.add_zero, e5]; omega
theorem divN_abs (a : Int) {b : Int} (hb : 0 < b) : (divN a b).natAbs ≤ a.natAbs := by
  have e1 := Int.mul_ediv_add_emod a b
  have e2 := Int.emod_nonneg a (b := b) (by omega)
  have e3 := Int.emod_lt_of_pos a hb
  unfold divN
  generalize hq : a / b = q at *
  generalize hr : a % b = r at *
  rcases Int.lt_or_le q 0 with h | h
  · have h2 : b * (q + 1) ≤ 1 * (q + 1) := by
      have : (b - 1) * (q + 1) ≤ 0 := Int.mul_nonpos_of_nonneg_of_nonpos (by omega) (by omega)
      grind
    have e4 : b * (q + 1) = b * q + b := by grind
    split
    · omega
    · rcases Int.lt_or_le b 2 with hb2 | hb2
      · have : b = 1 := by omega
        subst this; omega
      · omega
  · have h2 : q ≤ b * q := by
      have : 1 * q ≤ b * q := Int.mul_le_mul_of_nonneg_right (by omega) h
      omega
    split
    · have : 0 < r := by
        rcases Int.lt_or_le 0 r with h3 | h3
        · exact h3
        · have : r = 0 := by omega
          subst this
          have : b = 1 := by omega
          subst this
          omega
      omega
    · omega
theorem Fit.divN {k : Nat} {a b : Int} (h : Fit k a) (hb : 0 < b) : Fit k (divN a b) :=
  Nat.lt_of_le_of_lt (divN_abs a hb) h
theorem IsSq.le {n s : Int} (h : IsSq n s) : s ≤ n := by
  obtain ⟨h1, h2, h3⟩ := h
  rcases Int.lt_or_le s 2 with h | h
  · have : s = 1 := by omega
    subst this; omega
  · have : 2 * s ≤ s * s := Int.mul_le_mul_of_nonneg_right h (by omega)
    omega
theorem Fit.sq {k : Nat} {n s : Int} (h : Fit k n) (hs : IsSq n s) : Fit k s := by
  have := hs.le
  have := hs.1
  unfold Fit at *; omega
theorem Fit.abs {k : Nat} {y : Int} (h : Fit k y) : Fit k (if y < 0 then -y else y) := by
  split
  · exact h.neg
  · exact h
theorem Fit.shl {k : Nat} {y n : Int} (h : Fit k y) (hn : n ≤ 100) (hk : k ≤ 1000000) : (Builtin.Int.intBits y : Int) + n ≤ 2 ^ 27 := by
  have := h.bits
  have : (2 : Int) ^ 27 = 134217728 := by decide
  omega
theorem Fit.two (k : Nat) (hk : k ≤ 100) : Fit 200 (2 ^ k) := by
  unfold Fit
  have : ((2 : Int) ^ k).natAbs = 2 ^ k := by
    rw [Int.natAbs_pow]; rfl
  rw [this]
  exact Nat.pow_lt_pow_right (by decide) (by omega)
end Mine
namespace Mine
/-- what the walk of _ilog asks of the reductions -/
def RedOk (x M : Int) : Prop := ∀ R y, RedTo x M R y → R ≤ 14 ∧ -(10 * M) ≤ y ∧ y ≤ 10 * M ∧ 0 < M + divN y (2 ^ R)
theorem il_start {x M : Int} (h : RedOk x M) : (0 : Int) ≤ 0 ∧ (0 : Int) ≤ 14 ∧ -(10 * M) ≤ x - M ∧ x - M ≤ 10 * M ∧ 0 < M + divN (x - M) (2 ^ Int.toNat 0) ∧ RedTo x M (Int.toNat 0) (x - M) := by
  have h1 := h 0 _ RedTo.zero
  exact ⟨by decide, by decide, h1.2.1, h1.2.2.1, h1.2.2.2, RedTo.zero⟩
end Mine
namespace Mine
theorem IsSq.pos {n s : Int} (h : IsSq n s) : 0 < s := h.1
theorem abs_if (y : Int) : (if y < 0 then -y else y) = (y.natAbs : Int) := by split <;> omega
theorem cond1 {y M R : Int} (h0 : 0 ≤ R) (h8 : R ≤ 8) : M ≤ (if y < 0 then -y else y) * 2 ^ (8 - R).toNat ↔ M * 2 ^ R.toNat ≤ 256 * (y.natAbs : Int) := by
  rw [abs_if]
  have e : (256 : Int) = 2 ^ (8 - R).toNat * 2 ^ R.toNat := by
    rw [← Int.pow_add, show (8 - R).toNat + R.toNat = 8 by omega]; rfl
  have hp : (0 : Int) < 2 ^ R.toNat := Int.pow_pos (by decide)
  rw [e]
  generalize (2 : Int) ^ R.toNat = u at *
  generalize (2 : Int) ^ (8 - R).toNat = v at *
  rw [show v * u * (y.natAbs : Int) = ((y.natAbs : Int) * v) * u by grind]
  exact ⟨fun h => Int.mul_le_mul_of_nonneg_right h (by omega), fun h => Int.le_of_mul_le_mul_right h hp⟩
theorem cond2 {y M R : Int} (h8 : 8 < R) : M ≤ (if y < 0 then -y else y).fdiv (2 ^ (R - 8).toNat) ↔ M * 2 ^ R.toNat ≤ 256 * (y.natAbs : Int) := by
  rw [abs_if]
  have e : (2 : Int) ^ R.toNat = 256 * 2 ^ (R - 8).toNat := by
    rw [show (256 : Int) = 2 ^ 8 by rfl, ← Int.pow_add, show 8 + (R - 8).toNat = R.toNat by omega]
  have hp : (0 : Int) < 2 ^ (R - 8).toNat := Int.pow_pos (by decide)
  rw [e, Int.fdiv_eq_ediv_of_nonneg _ (by omega)]
  generalize (2 : Int) ^ (R - 8).toNat = u at *
  rw [Int.le_ediv_iff_mul_le hp, show M * (256 * u) = 256 * (M * u) by grind]
  omega
theorem il_turn {x M R y s : Int} (h : RedOk x M) (h0 : 0 ≤ R) (hr : RedTo x M R.toNat y) (hc : M * 2 ^ R.toNat ≤ 256 * (y.natAbs : Int)) (hs : IsSq (M * (M + divN y (2 ^ R.toNat))) s) :
    0 ≤ R + 1 ∧ R + 1 ≤ 14 ∧ -(10 * M) ≤ divN (M * y * 2 ^ Int.toNat 1) (M + s) ∧ divN (M * y * 2 ^ Int.toNat 1) (M + s) ≤ 10 * M ∧ 0 < M + divN (divN (M * y * 2 ^ Int.toNat 1) (M + s)) (2 ^ (R + 1).toNat) ∧ RedTo x M (R + 1).toNat (divN (M * y * 2 ^ Int.toNat 1) (M + s)) := by
  have e : (R + 1).toNat = R.toNat + 1 := by omega
  have r := RedTo.succ hr hc hs
  have k := h _ _ r
  rw [e]
  exact ⟨by omega, by omega, k.2.1, k.2.2.1, k.2.2.2, r⟩
end Mine
namespace Mine
theorem T_walk {M : Int} {p : Nat} (hM : M = 10 ^ p) : -(-10 * ((Str.ofString (toString M)).length : Int)).fdiv (3 * 8) = (tays p : Int) := by
  have h : (Str.ofString (toString M)).length = p + 1 := by
    refine nd_eq (x := M) (k := p) (by omega) ?_
    rw [hM, Int.pow_succ]
    have : (0 : Int) < 10 ^ p := Int.pow_pos (by decide)
    omega
  rw [h, Int.fdiv_eq_ediv_of_nonneg _ (by decide)]
  unfold tays
  omega
theorem tays_pos (p : Nat) : 0 < tays p := by unfold tays; omega
theorem T_pos {M : Int} {p : Nat} (hM : M = 10 ^ p) : 0 < -(-10 * ((Str.ofString (toString M)).length : Int)).fdiv (3 * 8) := by
  rw [T_walk hM]; have := tays_pos p; omega
theorem Fit.nat {k : Nat} (n : Nat) (h : n < 2 ^ k) : Fit k (n : Int) := by
  unfold Fit; omega
theorem T_fit {M : Int} {p : Nat} (hM : M = 10 ^ p) (hp : p ≤ 1000) : Fit 20 (-(-10 * ((Str.ofString (toString M)).length : Int)).fdiv (3 * 8)) := by
  rw [T_walk hM]
  refine Fit.nat _ ?_
  unfold tays; omega
end Mine
namespace Mine
theorem divN_le {a b c : Int} (hb : 0 < b) (h : a ≤ c * b) : divN a b ≤ c := by
  have h1 := (divN_bounds a hb).2
  rcases Int.lt_or_le c (divN a b) with h2 | h2
  · exfalso
    have h3 : (c + 1) * b ≤ divN a b * b := Int.mul_le_mul_of_nonneg_right (by omega) (by omega)
    have h4 : (c + 1) * b = c * b + b := by grind
    omega
  · exact h2
theorem le_divN {a b c : Int} (hb : 0 < b) (h : c * b ≤ a) : c ≤ divN a b := by
  have h1 := (divN_bounds a hb).1
  rcases Int.lt_or_le (divN a b) c with h2 | h2
  · exfalso
    have h3 : divN a b * b ≤ (c - 1) * b := Int.mul_le_mul_of_nonneg_right (by omega) (by omega)
    have h4 : (c - 1) * b = c * b - b := by grind
    omega
  · exact h2
theorem ys_half {y M : Int} {R : Nat} (hM : 0 < M) (h : 256 * (y.natAbs : Int) < M * 2 ^ R) : -M ≤ 2 * divN y (2 ^ R) ∧ 2 * divN y (2 ^ R) ≤ M := by
  have hp : (0 : Int) < 2 ^ R := Int.pow_pos (by decide)
  have hb := divN_bounds y hp
  generalize (2 : Int) ^ R = u at *
  generalize divN y u = d at *
  -- |d| u ≤ |y| + u/2 < M u /256 + u/2
  constructor
  · rcases Int.lt_or_le (2 * d) (-M) with h2 | h2
    · exfalso
      have h3 : 2 * d * u ≤ (-M - 1) * u := Int.mul_le_mul_of_nonneg_right (by omega) (by omega)
      have h4 : (-M - 1) * u = -(M * u) - u := by grind
      have h5 : u ≤ M * u := by
        have : 1 * u ≤ M * u := Int.mul_le_mul_of_nonneg_right (by omega) (by omega)
        omega
      have h6 : 2 * d * u = 2 * (d * u) := by grind
      omega
    · exact h2
  · rcases Int.lt_or_le M (2 * d) with h2 | h2
    · exfalso
      have h3 : (M + 1) * u ≤ 2 * d * u := Int.mul_le_mul_of_nonneg_right (by omega) (by omega)
      have h4 : (M + 1) * u = M * u + u := by grind
      have h5 : u ≤ M * u := by
        have : 1 * u ≤ M * u := Int.mul_le_mul_of_nonneg_right (by omega) (by omega)
        omega
      have h6 : 2 * d * u = 2 * (d * u) := by grind
      omega
    · exact h2
theorem hs_start {y M T : Int} {R : Nat} (hM : 0 < M) (hT : 0 < T) (h : 256 * (y.natAbs : Int) < M * 2 ^ R) :
    divN M T = horn M (divN y (2 ^ R)) (divN M T) [] ∧ -(2 * M + 2) ≤ divN M T ∧ divN M T ≤ 2 * M + 2 ∧ -M ≤ 2 * divN y (2 ^ R) ∧ 2 * divN y (2 ^ R) ≤ M := by
  have h1 := divN_abs M hT
  have h2 := ys_half hM h
  refine ⟨rfl, by omega, by omega, h2.1, h2.2⟩
end Mine
namespace Mine
theorem T_hi {M : Int} {p : Nat} (hM : M = 10 ^ p) (hp : p ≤ 1000) : -(-10 * ((Str.ofString (toString M)).length : Int)).fdiv (3 * 8) ≤ 1000 := by
  rw [T_walk hM]; unfold tays; omega
end Mine
namespace Mine
theorem Fit.small {x : Int} (h1 : -1000000 ≤ x) (h2 : x ≤ 1000000) : Fit 20 x := by
  unfold Fit; omega
theorem hs_turn {M ys w0 w k : Int} {pre : List Int} (hM : 0 < M) (hk : 0 < k) (h : w = horn M ys w0 pre) (h1 : -(2 * M + 2) ≤ w) (h2 : w ≤ 2 * M + 2) (h3 : -M ≤ 2 * ys) (h4 : 2 * ys ≤ M) :
    divN M k - divN (ys * w) M = horn M ys w0 (pre ++ [k]) ∧ -(2 * M + 2) ≤ divN M k - divN (ys * w) M ∧ divN M k - divN (ys * w) M ≤ 2 * M + 2 ∧ -M ≤ 2 * ys ∧ 2 * ys ≤ M := by
  have e1 := divN_abs M hk
  have e0 : 0 ≤ divN M k := le_divN hk (by omega)
  have e2 : (2 * ys * w).natAbs ≤ M.natAbs * (2 * M + 2).natAbs := by
    rw [Int.natAbs_mul]
    exact Nat.mul_le_mul (by omega) (by omega)
  have e3 : ((M.natAbs * (2 * M + 2).natAbs : Nat) : Int) = M * (2 * M + 2) := by
    rw [Int.natCast_mul]; congr 1 <;> omega
  have e4 : 2 * ys * w = 2 * (ys * w) := by grind
  have e5 : M * (2 * M + 2) = 2 * ((M + 1) * M) := by grind
  have e8 : (-(M + 1)) * M = -((M + 1) * M) := by grind
  have e6 : divN (ys * w) M ≤ M + 1 := divN_le hM (by omega)
  have e7 : -(M + 1) ≤ divN (ys * w) M := le_divN hM (by omega)
  refine ⟨?_, by omega, by omega, h3, h4⟩
  unfold horn at *
  rw [List.foldl_append, ← h]
  rfl
end Mine
namespace Mine
/-- what _ilog gives back -/
def ilTail (p : Nat) (M : Int) (R : Nat) (y : Int) : Int := divN (horn M (divN y (2 ^ R)) (divN M (tays p)) (downKs ((tays p : Int) - 1) (tays p - 1)) * y) M
def IsIlog (p : Nat) (x M r : Int) : Prop := ∃ R y, RedTo x M R y ∧ 256 * (y.natAbs : Int) < M * 2 ^ R ∧ r = ilTail p M R y
theorem il_end {p : Nat} {x M R y w : Int} (hM : M = 10 ^ p) (hr : RedTo x M R.toNat y) (hc : 256 * (y.natAbs : Int) < M * 2 ^ R.toNat)
    (hw : w = horn M (divN y (2 ^ R.toNat)) (divN M (-(-10 * ((Str.ofString (toString M)).length : Int)).fdiv (3 * 8))) (downKs (-(-10 * ((Str.ofString (toString M)).length : Int)).fdiv (3 * 8) - 1) (-(-10 * ((Str.ofString (toString M)).length : Int)).fdiv (3 * 8) - 1 - 0).toNat)) :
    IsIlog p x M (divN (w * y) M) := by
  refine ⟨_, _, hr, hc, ?_⟩
  rw [T_walk hM] at hw
  rw [hw]
  unfold ilTail
  rw [show ((tays p : Int) - 1 - 0).toNat = tays p - 1 by omega]
end Mine
namespace Mine
def dlC (c k : Int) : Int := if 0 ≤ k then c * 10 ^ k.toNat else divN c (10 ^ (-k).toNat)
theorem f_zero {e l : Int} (h : e + l = 0 ∨ e + l = 1) : (e + l - if decide (1 ≤ e + l) = true then 1 else 0) = 0 := by
  rcases h with h | h <;> rw [h] <;> decide
theorem Fit.ten {k : Nat} {x : Int} (hx : x = 10 ^ k) (hk : k ≤ 300) : Fit 1200 x := by
  unfold Fit
  rw [hx, Int.natAbs_pow]
  have h1 : (10 : Int).natAbs = 10 := rfl
  rw [h1]
  have : (10 : Nat) ^ k ≤ 16 ^ k := Nat.pow_le_pow_left (by decide) k
  have h2 : (16 : Nat) ^ k = 2 ^ (4 * k) := by rw [Nat.pow_mul]
  have : (2 : Nat) ^ (4 * k) < 2 ^ (4 * 300 + 1) := Nat.pow_lt_pow_right (by decide) (by omega)
  have h3 : (10 : Nat) ^ k < 2 ^ 1200 ∨ True := Or.inr trivial
  rcases Nat.lt_or_ge k 300 with h | h
  · have : (2 : Nat) ^ (4 * k) < 2 ^ 1200 := Nat.pow_lt_pow_right (by decide) (by omega)
    omega
  · have : k = 300 := by omega
    subst this
    exact (by decide +kernel : (10:Nat) ^ 300 < 2 ^ 1200)
end Mine
namespace Mine
theorem dlC_pos {c k : Int} (h : 0 ≤ k) : dlC c k = c * 10 ^ k.toNat := if_pos h
theorem dlC_neg {c k : Int} (h : ¬ 0 ≤ k) : dlC c k = divN c (10 ^ (-k).toNat) := if_neg h
theorem ilR1 {c K : Int} {n : Nat} (h : 0 ≤ K) (hR : RedOk (dlC c K) (10 ^ n)) : RedOk (c * 10 ^ K.toNat) (10 ^ (n : Int).toNat) := by
  rw [dlC_pos h] at hR; exact hR
theorem ilR2 {c K : Int} {n : Nat} (h : ¬ 0 ≤ K) (hR : RedOk (dlC c K) (10 ^ n)) : RedOk (divN c (10 ^ (-K).toNat)) (10 ^ (n : Int).toNat) := by
  rw [dlC_neg h] at hR; exact hR
theorem dl_end1 {c K d r : Int} {n : Nat} (h : 0 ≤ K) (hd : IsIlog n (c * 10 ^ K.toNat) (10 ^ (n : Int).toNat) d) (hr : r = divN (0 + d) 100) : ∃ d, IsIlog n (dlC c K) (10 ^ n) d ∧ r = divN d 100 := by
  refine ⟨d, ?_, by rw [hr, Int.zero_add]⟩
  rw [dlC_pos h]; exact hd
theorem dl_end2 {c K d r : Int} {n : Nat} (h : ¬ 0 ≤ K) (hd : IsIlog n (divN c (10 ^ (-K).toNat)) (10 ^ (n : Int).toNat) d) (hr : r = divN (0 + d) 100) : ∃ d, IsIlog n (dlC c K) (10 ^ n) d ∧ r = divN d 100 := by
  refine ⟨d, ?_, by rw [hr, Int.zero_add]⟩
  rw [dlC_neg h]; exact hd
end Mine
namespace Mine
theorem ten_nat (n : Nat) : (10 : Int) ^ (n : Int).toNat = 10 ^ n := by rw [Int.toNat_natCast]
theorem ten_fit {n : Nat} (h : n ≤ 200) : Fit 1500 (20 * (10 : Int) ^ (n : Int).toNat) :=
  Fit.mono (Fit.mul (n := 20) (Fit.small (by decide) (by decide)) (Fit.ten (ten_nat n) (by omega))) (by decide)
end Mine

end
section
open PySem PySem.W PyProof.Rows
namespace Mine
/-- the series of _law_log: a - b, a + b, unit -/
def llPw (a b u : Int) : Nat → Int
  | 0 => 2 * u * (a - b) / (a + b)
  | i + 1 => llPw a b u i * (a - b) ^ 2 / (a + b) ^ 2
def llTot (a b u : Int) : Nat → Int
  | 0 => 0
  | i + 1 => llTot a b u i + llPw a b u i / (2 * i + 1)
def LlAt (a b u pw k tot : Int) : Prop := ∃ i : Nat, k = 2 * i + 1 ∧ pw = llPw a b u i ∧ tot = llTot a b u i ∧ ∀ j, j < i → 0 < llPw a b u j
def IsLl (a b u r : Int) : Prop := ∃ i : Nat, llPw a b u i ≤ 0 ∧ r = llTot a b u i ∧ ∀ j, j < i → 0 < llPw a b u j
theorem llPw_less {a b pw : Int} (hb : 0 < b) (hab : b < a) (hp : 0 < pw) : 0 ≤ pw * (a - b) ^ 2 / (a + b) ^ 2 ∧ pw * (a - b) ^ 2 / (a + b) ^ 2 < pw := by
  have h2 : (0 : Int) < (a + b) ^ 2 := Int.pow_pos (by omega)
  have h1 : (0 : Int) < (a - b) ^ 2 := Int.pow_pos (by omega)
  have h3 : (a - b) ^ 2 < (a + b) ^ 2 := by
    have : 0 < 4 * (a * b) := by have := Int.mul_pos (show 0 < a by omega) hb; omega
    grind
  refine ⟨Int.ediv_nonneg (Int.mul_nonneg (by omega) (by omega)) (by omega), ?_⟩
  refine Int.ediv_lt_of_lt_mul h2 ?_
  exact Int.mul_lt_mul_of_pos_left h3 hp
theorem ll_start {a b u : Int} (hb : 0 < b) (hab : b < a) (hu : 0 < u) : (0 : Int) < 1 ∧ 0 ≤ (2 * u * (a - b)).fdiv (a + b) ∧ (2 * u * (a - b)).fdiv (a + b) ≤ 2 * u ∧ 1 + 2 * (2 * u * (a - b)).fdiv (a + b) ≤ 4 * u + 1 ∧ LlAt a b u ((2 * u * (a - b)).fdiv (a + b)) 1 0 := by
  rw [Int.fdiv_eq_ediv_of_nonneg _ (by omega)]
  suffices h : 2 * u * (a - b) / (a + b) ≤ 2 * u from
    ⟨by decide, Int.ediv_nonneg (Int.mul_nonneg (by omega) (by omega)) (by omega), h, by omega, 0, by simp, rfl, rfl, fun j hj => absurd hj (by omega)⟩
  refine Int.le_of_lt_add_one (Int.ediv_lt_of_lt_mul (by omega) ?_)
  have h1 : 2 * u * (a - b) ≤ 2 * u * (a + b) := Int.mul_le_mul_of_nonneg_left (by omega) (by omega)
  have h2 : (2 * u + 1) * (a + b) = 2 * u * (a + b) + (a + b) := by grind
  omega
theorem ll_turn {a b u pw k tot : Int} (hb : 0 < b) (hab : b < a) (hu : 0 < u) (hk : 0 < k) (hp : 0 < pw) (hp2 : pw ≤ 2 * u) (hp3 : k + 2 * pw ≤ 4 * u + 1) (h : LlAt a b u pw k tot) :
    0 < k + 2 ∧ 0 ≤ (pw * (a - b) ^ Int.toNat 2).fdiv ((a + b) ^ Int.toNat 2) ∧ (pw * (a - b) ^ Int.toNat 2).fdiv ((a + b) ^ Int.toNat 2) ≤ 2 * u ∧ k + 2 + 2 * (pw * (a - b) ^ Int.toNat 2).fdiv ((a + b) ^ Int.toNat 2) ≤ 4 * u + 1 ∧ LlAt a b u ((pw * (a - b) ^ Int.toNat 2).fdiv ((a + b) ^ Int.toNat 2)) (k + 2) (tot + pw.fdiv k) := by
  have e : Int.toNat 2 = 2 := rfl
  have h2 : (0 : Int) < (a + b) ^ 2 := Int.pow_pos (by omega)
  rw [e, Int.fdiv_eq_ediv_of_nonneg _ (by omega), Int.fdiv_eq_ediv_of_nonneg _ (by omega)]
  have h3 := llPw_less hb hab hp
  refine ⟨by omega, h3.1, by omega, by omega, ?_⟩
  obtain ⟨i, h5, h6, h7, h8⟩ := h
  refine ⟨i + 1, by rw [h5]; push_cast; omega, by rw [h6]; rfl, by rw [h7, h5, h6]; rfl, fun j hj => ?_⟩
  rcases Nat.lt_or_ge j i with g | g
  · exact h8 j g
  · have : j = i := by omega
    subst this
    rw [← h6]; exact hp
theorem ll_meas {a b pw : Int} (hb : 0 < b) (hab : b < a) (hp : 0 < pw) : ((pw * (a - b) ^ Int.toNat 2).fdiv ((a + b) ^ Int.toNat 2)).toNat < pw.toNat := by
  have e : Int.toNat 2 = 2 := rfl
  have h2 : (0 : Int) < (a + b) ^ 2 := Int.pow_pos (by omega)
  rw [e, Int.fdiv_eq_ediv_of_nonneg _ (by omega)]
  have h3 := llPw_less hb hab hp
  omega
theorem ll_out {a b u pw k tot : Int} (h : LlAt a b u pw k tot) (hp : ¬ 0 < pw) : IsLl a b u tot := by
  obtain ⟨i, h5, h6, h7, h8⟩ := h
  exact ⟨i, by omega, h7, h8⟩
theorem Fit.pow2 {k : Nat} {x : Int} (h : Fit k x) : Fit (k + k) (x ^ Int.toNat 2) := by
  have : x ^ Int.toNat 2 = x * x := by rw [show Int.toNat 2 = 2 from rfl]; grind
  rw [this]
  exact h.mul h
theorem Fit.powOk {k : Nat} {x n : Int} (h : Fit k x) (hn : 0 ≤ n ∧ n ≤ 10000) (hk : k ≤ 10000) : (Builtin.Int.intBits x : Int) * n ≤ 2 ^ 27 := by
  have h1 := h.bits
  have h2 : (Builtin.Int.intBits x : Int) * n ≤ 10000 * 10000 := Int.mul_le_mul (by omega) hn.2 hn.1 (by decide)
  have : (2 : Int) ^ 27 = 134217728 := by decide
  omega
end Mine

end
section
open PySem PySem.W PyProof.Rows
namespace Mine
section
variable {prog : Program} {w : World} {A : Around} {E : Value → Shared → Prop} {s : Shared} {h₀ : Heap} {L a b : Addr} {m : Str → Option Value} {news : List (Addr × Obj)} {vs ws : List Value} {Q : Value → Shared → Prop}
theorem ints3 {us : List Value} {ns : List Int} (h : IntsAre us ns) (hl : ns.length = 3) : ∃ x y z t u v, us = [.int x t, .int y u, .int z v] := by
  cases h with
  | nil => simp at hl
  | cons x t h =>
    cases h with
    | nil => simp at hl
    | cons y u h =>
      cases h with
      | nil => simp at hl
      | cons z v h =>
        cases h with
        | nil => exact ⟨x, y, z, t, u, v, rfl⟩
        | cons _ _ _ => simp at hl
theorem draw_len {ns : List Int} {x y z : Int} : (List.take 3 ns ++ List.drop ((List.take 3 ns).length : Int).toNat [x, y, z]).length = 3 := by
  rw [List.length_append, List.length_drop, List.length_take]
  simp
  omega
theorem add_draw {ns : List Int} {x y z : Int} (F : Fr h₀ L s.heap m) (N : News h₀ L s.heap news) (ha : s.heap.IsList a vs.toArray) (hb : s.heap.IsList b ws.toArray) (hi : IntsAre vs (List.take 3 ns)) (hj : IntsAre ws (List.drop ((List.take 3 ns).length : Int).toNat [x, y, z]))
    (h : ∀ (D : Addr) (x y z : Int) (t u v : Tok) h', Fr h₀ L h' m → News h₀ L h' ((D, listOf #[.int x t, .int y u, .int z v] 0) :: news) → (∀ p ∈ news, p.1 < D) → Q (.ref D) { s with heap := h' }) :
    wpAny (model prog w) A (binaryOp .Add (.ref a) (.ref b)) Q E s := by
  refine kmk_add_ints F N ha hb hi hj (fun D us h' F' N' l1 hI => ?_) ?_
  · obtain ⟨x, y, z, t, u, v, e⟩ := ints3 hI draw_len
    subst e
    exact h D x y z t u v h' F' N' l1
  · rw [← List.length_append, draw_len]; decide +kernel
end
end Mine

end
section
open PySem PySem.W PyProof.Rows
namespace Mine
def HcEl (c b : Int) (news : List (Addr × Obj)) (k : Int) (y : Value) (news' : List (Addr × Obj)) : Prop := news' = news ∧ (∃ t : Tok, y = .int k t) ∧ 2 ^ k.toNat * b ≤ c
def HcNo (c b : Int) (news : List (Addr × Obj)) (k : Int) (news' : List (Addr × Obj)) : Prop := news' = news ∧ ¬ 2 ^ k.toNat * b ≤ c
def HcFin (c b : Int) (P : Prop) : Prop := (0 < b ∧ c < 2 ^ 7 * b) ∧ P
section
variable {prog : Program} {w : World} {A : Around} {h₀ : Heap} {L : Addr} {m : Str → Option Value} {env : Env} {ct elt : Expr} {x : Str} {scope : Scope} {cl : List (Str × Addr)} {s : Shared} {Fin : List Value → List (Addr × Obj) → Prop} {news : List (Addr × Obj)}
theorem hc_mono {c b : Int} (hb : 0 < b) {i j : Nat} (h : i ≤ j) (hi : ¬ (2 : Int) ^ i * b ≤ c) : ¬ (2 : Int) ^ j * b ≤ c := by
  intro hj
  apply hi
  obtain ⟨d, rfl⟩ := Nat.le.dest h
  rw [Int.pow_add] at hj
  have h1 : (0 : Int) < 2 ^ d := Int.pow_pos (by decide)
  have h2 : (0 : Int) < 2 ^ i * b := Int.mul_pos (Int.pow_pos (by decide)) hb
  have h3 : 2 ^ i * b * 1 ≤ 2 ^ i * b * 2 ^ d := Int.mul_le_mul_of_nonneg_left (by omega) (by omega)
  have h4 : (2 : Int) ^ i * 2 ^ d * b = 2 ^ i * b * 2 ^ d := by grind
  omega
theorem hc_range {c b : Int}
    (turn : ∀ k t I oI C oC D m₂ ys h tk (E' : Value → Shared → Prop), 0 ≤ k → k < 8 → LCg.NsObj oC m₂ → m₂ x = some (.int k t) → Fr h₀ L h m → News h₀ L h ((I, oI) :: (C, oC) :: (D, LCg.lst ys) :: news) → LCg.Off3 I C D news → ((@Ne Nat I C) ∧ (@Ne Nat I D) ∧ (@Ne Nat C D)) →
      wpAny (model prog w) A (isTrue ct (compEnvC scope cl C env) (eval ct (compEnvC scope cl C env))) (fun b' s' => if b' = true then wpAny (model prog w) A (eval elt (compEnvC scope cl C env)) (LCg.CompEnd h₀ L m { s with heap := h, toks := tk } I oI C oC D (LCg.lst ys) (fun _ => True) (fun y news' => HcEl c b news k y news')) E' s'
        else LCg.CompEnd h₀ L m { s with heap := h, toks := tk } I oI C oC D (LCg.lst ys) (fun _ => True) (fun _ news' => HcNo c b news k news') Value.none s') E' { s with heap := h, toks := tk })
    (fin : HcFin c b (∀ ys l, IntsAre ys l → l.length ≤ 7 → c < 2 ^ l.length * b → Fin ys news)) : LCt.CompRestT prog w A h₀ L m env ct elt x scope cl s (fun _ => True) (fun i v => ∃ t, v = .int (0 + (i : Int)) t) Fin 8 0 [] news := by
  obtain ⟨⟨hb, h7⟩, fin⟩ := fin
  have key : ∀ (j i : Nat) (ys : List Value) (l : List Int), i + j = 8 → IntsAre ys l → ((l.length = i ∧ (i = 0 ∨ 2 ^ (i - 1) * b ≤ c)) ∨ (l.length < i ∧ ¬ 2 ^ l.length * b ≤ c)) → LCt.CompRestT prog w A h₀ L m env ct elt x scope cl s (fun _ => True) (fun i v => ∃ t, v = .int (0 + (i : Int)) t) Fin j i ys news := by
    intro j
    induction j with
    | zero =>
      intro i ys l hi hy hl
      have e : i = 8 := by omega
      subst e
      have hl7 : l.length ≤ 7 ∧ c < 2 ^ l.length * b := by
        rcases hl with hl | hl
        · exfalso
          rcases hl.2 with h | h
          · omega
          · have : (2 : Int) ^ (8 - 1) = 128 := by decide
            rw [this] at h
            have : (2 : Int) ^ 7 = 128 := by decide
            rw [this] at h7
            omega
        · exact ⟨by omega, by omega⟩
      exact LCt.CompRestT.zero (fin ys l hy hl7.1 hl7.2)
    | succ j ih =>
      intro i ys l hi hy hl
      refine LCt.CompRestT.succ ?_
      intro v I oI C oC D m₂ h tk E' hv hC hx F N off ne
      obtain ⟨t, hv'⟩ := hv
      rw [Int.zero_add] at hv'
      rw [hv'] at hx
      refine wpAny_mono (turn i t I oI C oC D m₂ ys h tk E' (by omega) (by omega) hC hx F N off ne) (fun b' s₂ hq => ?_) fun _ _ e => e
      cases b' with
      | true =>
        simp only [if_true] at hq ⊢
        refine wpAny_mono hq (fun y s₃ hr => ?_) fun _ _ e => e
        obtain ⟨h', tk', nw, e, F', N', off', hS, hn, ⟨t', hy'⟩, hle⟩ := hr
        rw [hn] at N' off'
        refine ⟨h', tk', news, e, F', N', off', True.intro, ?_⟩
        rw [hy']
        rw [Int.toNat_natCast] at hle
        refine ih (i + 1) _ _ (by omega) (IntsAre.append hy (.cons (i : Int) t' .nil)) ?_
        rcases hl with hl | hl
        · left; exact ⟨by simp [hl.1], Or.inr (by simpa using hle)⟩
        · exact absurd hle (hc_mono hb (by omega) hl.2)
      | false =>
        simp only [Bool.false_eq_true, if_false] at hq ⊢
        obtain ⟨h', tk', nw, e, F', N', off', hS, hn, hle⟩ := hq
        rw [hn] at N' off'
        rw [Int.toNat_natCast] at hle
        refine ⟨h', tk', news, e, F', N', off', True.intro, ih (i + 1) _ _ (by omega) hy ?_⟩
        rcases hl with hl | hl
        · right; exact ⟨by omega, by rw [hl.1]; exact hle⟩
        · right; exact ⟨by omega, hl.2⟩
  exact key 8 0 [] [] (by omega) .nil (Or.inl ⟨rfl, Or.inl rfl⟩)
theorem hc_yes {I C D : Addr} {oI oC oD : Obj} {s₁ : Shared} {c b k : Int} {t : Tok} {h' : Heap} {tk : Nat} {all : List (Addr × Obj)} (F : Fr h₀ L h' m) (N : News h₀ L h' all) (sub : ∀ p ∈ (I, oI) :: (C, oC) :: (D, oD) :: news, p ∈ all) (off : LCg.Off3 I C D news) (hle : 2 ^ k.toNat * b ≤ c) :
    LCg.CompEnd h₀ L m s₁ I oI C oC D oD (fun _ => True) (fun y news' => HcEl c b news k y news') (.int k t) { s₁ with heap := h', toks := tk } :=
  LCg.CompEnd.intro F N news sub off True.intro ⟨rfl, ⟨_, rfl⟩, hle⟩
theorem hc_no {I C D : Addr} {oI oC oD : Obj} {s₁ : Shared} {c b k : Int} {h' : Heap} {tk : Nat} {all : List (Addr × Obj)} (F : Fr h₀ L h' m) (N : News h₀ L h' all) (sub : ∀ p ∈ (I, oI) :: (C, oC) :: (D, oD) :: news, p ∈ all) (off : LCg.Off3 I C D news) (hle : ¬ 2 ^ k.toNat * b ≤ c) :
    LCg.CompEnd h₀ L m s₁ I oI C oC D oD (fun _ => True) (fun _ news' => HcNo c b news k news') .none { s₁ with heap := h', toks := tk } :=
  LCg.CompEnd.intro F N news sub off True.intro ⟨rfl, hle⟩
end
end Mine

end
section
open PySem PySem.W PyProof.Rows
namespace Mine
section
variable {M : Model} {A : Around} {E : Value → Shared → Prop} {s : Shared} {env : Env} {Q : Unit → Shared → Prop}
theorem fmod_rng {D b : Int} (hb : 0 < b) : 0 ≤ D.fmod b ∧ D.fmod b < b := by
  rw [Int.fmod_eq_emod_of_nonneg _ (by omega)]
  exact ⟨Int.emod_nonneg _ (by omega), Int.emod_lt_of_pos _ hb⟩
theorem st_p {D : Int} {t : Tok} (h : ∀ P : Int, 1 ≤ P → P ≤ 30 → wpAny M A (storeName env (Str.ofString "p") (.int P t)) Q E s) :
    wpAny M A (storeName env (Str.ofString "p") (.int (1 + D.fmod 30) t)) Q E s := by
  have := fmod_rng (D := D) (b := 30) (by decide)
  exact h _ (by omega) (by omega)
theorem top_rng {D P : Int} (h1 : 1 ≤ P) : 1 ≤ (2 ^ (D.fmod 8).toNat * 10 ^ (P + 2).toNat - 1 : Int).fdiv 384 ∧ 3 * (2 ^ (D.fmod 8).toNat * 10 ^ (P + 2).toNat - 1 : Int).fdiv 384 < 10 ^ (P + 2).toNat := by
  have hd := fmod_rng (D := D) (b := 8) (by decide)
  generalize D.fmod 8 = d at *
  rw [Int.fdiv_eq_ediv_of_nonneg _ (by decide)]
  have h10 : (1000 : Int) ≤ 10 ^ (P + 2).toNat := by
    have e : (P + 2).toNat = 3 + (P - 1).toNat := by omega
    rw [e, Int.pow_add]
    have : (0 : Int) < 10 ^ (P - 1).toNat := Int.pow_pos (by decide)
    have : (10 : Int) ^ 3 = 1000 := by decide
    omega
  have hd2 : d = 0 ∨ d = 1 ∨ d = 2 ∨ d = 3 ∨ d = 4 ∨ d = 5 ∨ d = 6 ∨ d = 7 := by omega
  generalize (10 : Int) ^ (P + 2).toNat = m at *
  rcases hd2 with h | h | h | h | h | h | h | h <;> subst h <;> simp only [Int.reducePow, Int.reduceToNat] <;> omega
theorem st_top {D P : Int} {t : Tok} (h1 : 1 ≤ P) (h : ∀ T : Int, 1 ≤ T → 3 * T < 10 ^ (P + 2).toNat → wpAny M A (storeName env (Str.ofString "top") (.int T t)) Q E s) :
    wpAny M A (storeName env (Str.ofString "top") (.int ((2 ^ (D.fmod 8).toNat * 10 ^ (P + 2).toNat - 1 : Int).fdiv 384) t)) Q E s := by
  have := top_rng (D := D) h1
  exact h _ this.1 this.2
theorem st_y {D T m : Int} {t : Tok} (h1 : 1 ≤ T) (h2 : 3 * T < m) (h : ∀ Y : Int, 1 ≤ Y → 3 * Y < m → wpAny M A (storeName env (Str.ofString "y") (.int Y t)) Q E s) :
    wpAny M A (storeName env (Str.ofString "y") (.int (1 + D.fmod T) t)) Q E s := by
  have := fmod_rng (D := D) (b := T) (by omega)
  exact h _ (by omega) (by omega)
end
theorem ten_big {P : Int} (h1 : 1 ≤ P) : (1000 : Int) ≤ 10 ^ (P + 2).toNat := by
  have e : (P + 2).toNat = 3 + (P - 1).toNat := by omega
  rw [e, Int.pow_add]
  have : (0 : Int) < 10 ^ (P - 1).toNat := Int.pow_pos (by decide)
  have : (10 : Int) ^ 3 = 1000 := by decide
  omega
theorem ten_small {P : Int} (h2 : P ≤ 30) : (10 : Int) ^ (P + 2).toNat ≤ 10 ^ 32 := by
  have h : (P + 2).toNat ≤ 32 := by omega
  obtain ⟨k, hk⟩ := Nat.le.dest h
  rw [← hk, Int.pow_add]
  have h1 : (0 : Int) < 10 ^ (P + 2).toNat := Int.pow_pos (by decide)
  have h2 : (0 : Int) < 10 ^ k := Int.pow_pos (by decide)
  have := Int.mul_le_mul_of_nonneg_left (show (1 : Int) ≤ 10 ^ k by omega) (Int.le_of_lt h1)
  omega
theorem x_fit {P Y m : Int} (h1 : 1 ≤ P) (h2 : P ≤ 30) (hm : m = 10 ^ (P + 2).toNat) (hY : -m ≤ Y) (hY2 : Y ≤ m) : Fit 1100 (m + Y) := by
  have a := ten_big h1
  have b := ten_small h2
  rw [← hm] at a b
  have e : Fit 200 ((2 : Int) * 10 ^ 32) := by unfold Fit; decide +kernel
  exact Fit.mono (Fit.of_le e (by omega) (by omega)) (by decide)
theorem nd_up {P Y m : Int} (h1 : 1 ≤ P) (hm : m = 10 ^ (P + 2).toNat) (hY : 1 ≤ Y) (hY2 : 3 * Y < m) : -P - 2 + (nd (m + Y) : Int) = 1 := by
  have : nd (m + Y) = (P + 2).toNat + 1 := nd_eq (by omega) (by rw [Int.pow_succ]; omega)
  omega
theorem nd_dn {P Y m : Int} (h1 : 1 ≤ P) (hm : m = 10 ^ (P + 2).toNat) (hY : 1 ≤ Y) (hY2 : 3 * Y < m) : -P - 2 + (nd (m - Y) : Int) = 0 := by
  have : nd (m - Y) = (P + 1).toNat + 1 := by
    have e : (10 : Int) ^ (P + 2).toNat = 10 ^ ((P + 1).toNat + 1) := by congr 1; omega
    rw [e, Int.pow_succ] at hm
    refine nd_eq (by omega) (by rw [Int.pow_succ]; omega)
  omega
end Mine
namespace Mine
theorem toNat2 {P : Int} (h : 1 ≤ P) : P + 2 = ((P + 2).toNat : Int) := by omega
end Mine

end
section
open PySem PySem.W PyProof.Rows
namespace Mine
section
variable {M : Model} {A : Around} {E : Value → Shared → Prop}
/-- the counter of tokens is of no use: any other will do -/
theorem tk_drop {α : Type} {x : Sem α} {Q : α → Shared → Prop} {h : Heap} {g : Array GenState} {d : Drawn} {o : OsState} {t : Nat} (H : ∀ tk : Nat, wpAny M A x Q E { heap := h, gens := g, drawn := d, toks := tk, os := o }) : wpAny M A x Q E { heap := h, gens := g, drawn := d, toks := t + 1, os := o } := H _
theorem st_drop {env : Env} {n : Str} {v : Int} {t : Nat} {Q : Unit → Shared → Prop} {s : Shared} (H : ∀ tk : Tok, wpAny M A (storeName env n (.int v tk)) Q E s) : wpAny M A (storeName env n (.int v (t + 1 : Nat))) Q E s := H _
end
end Mine

end
section
open PySem PySem.W PySem.Calls PyProof.Rows PyProof.V PySem.Spec
namespace Mine
section
variable {prog : Program} {w : World} {A : Around} {E : Value → Shared → Prop} {s : Shared} {env : Env} {h₀ : Heap} {target : Expr} {body : List Stmt} {Q : Flow → Shared → Prop}
/-- what a turn leaves: a ledger of the form Led, and the names that no turn stores -/
def TwE {σ : Type} (stored : List Str) (m₀ : Str → Option Value) (Led : σ → List (Addr × Obj)) (Fa : σ → Prop) (m' : Str → Option Value) (n' : List (Addr × Obj)) : Prop :=
  ∃ c : σ, Fa c ∧ SubL (Led c) n' ∧ ∀ z, stored.contains z = false → m' z = m₀ z
theorem UnrPostW.mono' {L : Addr} {s₁ : Shared} {its : List (Addr × Obj)} {R R' : (Str → Option Value) → List (Addr × Obj) → Prop} {f : Flow} {s₂ : Shared} (h : UnrPostW h₀ L s₁ its R Q f s₂) (hr : ∀ m n, R m n → R' m n) : UnrPostW h₀ L s₁ its R' Q f s₂ := by
  cases f with
  | ret v => exact h
  | brk => exact h
  | next => obtain ⟨h', tk, m', n', a, b, c, d, e⟩ := h; exact ⟨h', tk, m', n', a, b, c, d, hr _ _ e⟩
  | cont => obtain ⟨h', tk, m', n', a, b, c, d, e⟩ := h; exact ⟨h', tk, m', n', a, b, c, d, hr _ _ e⟩
theorem AllObj.mono' : ∀ {ws : List (Addr × String)} {P P' : List (Addr × Obj) → Prop}, AllObj ws P → (∀ its, P its → P' its) → AllObj ws P'
  | [], _, _, h, hp => hp _ h
  | _ :: _, _, _, h, hp => fun o ho => AllObj.mono' (h o ho) fun its => hp _
theorem news_sub {h : Heap} {L : Addr} {its l n : List (Addr × Obj)} (N : News h₀ L h (its ++ n)) (hs : SubL l n) : News h₀ L h (its ++ l) := fun p hp => by
  rcases List.mem_append.mp hp with hp | hp
  · exact N p (List.mem_append.mpr (.inl hp))
  · exact N p (List.mem_append.mpr (.inr (hs.mem p hp)))
theorem tw_frame {stored : List Str} {m m₀ : Str → Option Value} (hz : ∀ z, stored.contains z = false → m z = m₀ z) : m = fun y => if stored.contains y then m y else m₀ y := by
  funext z
  cases h3 : stored.contains z with
  | true => simp
  | false => simp only [Bool.false_eq_true, if_false]; exact hz z h3
/-- two items, one turn for both -/
theorem tw_two {σ : Type} {ws : List (Addr × String)} {keep : List (Addr × Obj)} {a b : Int} {ta tb : Tok} {m₀ : Str → Option Value} {news₀ : List (Addr × Obj)} (stored : List Str) (Led : σ → List (Addr × Obj)) (Fa : σ → Prop) (P : Int → Prop) (c₀ : σ)
    (h0 : SubL (Led c₀) news₀) (f0 : Fa c₀) (ha : P a) (hb : P b)
    (turn : ∀ (n : Int) (t : Tok) (c : σ) (u : Str → Option Value) h tk, P n → Fa c → Fr h₀ env.locals h (fun y => if stored.contains y then u y else m₀ y) → AllObj ws (fun its => News h₀ env.locals h (its ++ Led c) →
      wpAny (model prog w) A (assign target env (.int n t)) (fun _ s₂ => wpAny (model prog w) A (execs body env) (UnrPostW h₀ env.locals { s with heap := h, toks := tk } its (fun m' n' => SubL keep n' ∧ TwE stored m₀ Led Fa m' n') Q) E s₂) E { s with heap := h, toks := tk }))
    (done : ∀ (c : σ) (u : Str → Option Value) h tk, Fa c → Fr h₀ env.locals h (fun y => if stored.contains y then u y else m₀ y) → News h₀ env.locals h (Led c) → Q .next { s with heap := h, toks := tk }) :
    ItemsRest prog w A E h₀ env target body Q s ws keep [Itm.val (.int a ta), Itm.val (.int b tb)] m₀ news₀ := by
  have key : ∀ (n : Int) (t : Tok) (r : List Itm), P n → (∀ m' n', TwE stored m₀ Led Fa m' n' → ItemsRest prog w A E h₀ env target body Q s ws keep r m' n') →
      ∀ m₁ n₁, TwE stored m₀ Led Fa m₁ n₁ → ItemsRest prog w A E h₀ env target body Q s ws keep (Itm.val (.int n t) :: r) m₁ n₁ := by
    intro n t r hn hr m₁ n₁ ⟨c, fc, hs, hz⟩
    refine ItemsRest.val fun h tk F => ?_
    rw [tw_frame hz] at F
    refine AllObj.mono' (turn n t c m₁ h tk hn fc F) fun its hi N => ?_
    refine wpAny_mono (hi (news_sub N hs)) (fun _ s₂ p => ?_) fun _ _ e => e
    refine wpAny_mono p (fun f s₃ q => ?_) fun _ _ e => e
    exact UnrPostW.mono' q fun m n h => ⟨h.1, hr m n h.2⟩
  refine key a ta _ ha (key b tb _ hb fun m' n' ⟨c, fc, hs, hz⟩ => ?_) m₀ news₀ ⟨c₀, f0, h0, fun _ _ => rfl⟩
  refine ItemsRest.zero fun h tk F N => ?_
  rw [tw_frame hz] at F
  exact done c m' h tk fc F (news_sub (its := []) N hs)
end
end Mine
namespace Mine
open PySem PySem.W PySem.Calls PyProof.Rows PyProof.V PySem.Spec
theorem fr_skip {stored : List Str} {a z : Str} {v r x : Option Value} (h1 : stored.contains z = false) (h : x = r) (ha : stored.contains a = true) : (if z = a then v else x) = r := by
  rw [if_neg]
  · exact h
  · intro e
    rw [e, ha] at h1
    exact absurd h1 (by decide)
theorem fr_last {stored : List Str} {z : Str} {u x : Option Value} (h1 : stored.contains z = false) : (if stored.contains z = true then u else x) = x := by
  rw [h1]; rfl
end Mine

end
section
open PySem PySem.W PySem.Calls PyProof.Rows PyProof.V PySem.Spec
namespace Mine
section
variable {prog : Program} {w : World} {A : Around} {E : Value → Shared → Prop} {s : Shared} {env : Env} {h₀ : Heap} {target : Expr} {body : List Stmt} {Q : Flow → Shared → Prop}
abbrev tw3L (e0 e3 : Addr × Obj) (cx cy : Addr) (c : Obj × Obj) : List (Addr × Obj) := [e0, (cx, c.2), (cy, c.1), e3]
def Tw3F (c : Obj × Obj) : Prop := (∃ v, c.1.data = .cell v) ∧ ∃ v, c.2.data = .cell v
theorem tw03 {ws : List (Addr × String)} {keep : List (Addr × Obj)} {D T m : Int} {ta tb : Tok} {m₀ : Str → Option Value} {e0 e1 e3 x1 x2 x3 x4 x5 : Addr × Obj} {cx cy : Addr} {ox oy : Obj} {vx vy : Option Value} (stored : List Str)
    (h1 : 1 ≤ T) (h2 : 3 * T < m) (hy : oy.data = .cell vy) (hx : ox.data = .cell vx)
    (turn : ∀ (n : Int) (t : Tok) (oy ox : Obj) (vy vx : Option Value) (u : Str → Option Value) h tk, 1 ≤ n → 3 * n < m → oy.data = .cell vy → ox.data = .cell vx → Fr h₀ env.locals h (fun y => if stored.contains y then u y else m₀ y) → AllObj ws (fun its => News h₀ env.locals h (its ++ [e0, (cx, ox), (cy, oy), e3]) →
      wpAny (model prog w) A (assign target env (.int n t)) (fun _ s₂ => wpAny (model prog w) A (execs body env) (UnrPostW h₀ env.locals { s with heap := h, toks := tk } its (fun m' n' => SubL keep n' ∧ TwE stored m₀ (tw3L e0 e3 cx cy) Tw3F m' n') Q) E s₂) E { s with heap := h, toks := tk }))
    (done : ∀ (oy ox : Obj) (u : Str → Option Value) h tk, Fr h₀ env.locals h (fun y => if stored.contains y then u y else m₀ y) → News h₀ env.locals h [e0, (cx, ox), (cy, oy), e3] → Q .next { s with heap := h, toks := tk }) :
    ItemsRest prog w A E h₀ env target body Q s ws keep [Itm.val (.int (1 + D.fmod T) ta), Itm.val (.int T tb)] m₀ (e0 :: e1 :: x1 :: x2 :: x3 :: x4 :: x5 :: (cx, ox) :: (cy, oy) :: e3 :: []) := by
  have := fmod_rng (D := D) (b := T) (by omega)
  refine tw_two stored (tw3L e0 e3 cx cy) Tw3F (fun n => 1 ≤ n ∧ 3 * n < m) (oy, ox) ?_ ⟨⟨_, hy⟩, ⟨_, hx⟩⟩ ⟨by omega, by omega⟩ ⟨h1, h2⟩ ?_ ?_
  · simp [SubL, tw3L]
  · intro n t c u h tk hn ⟨⟨vy, hy⟩, ⟨vx, hx⟩⟩ F
    exact turn n t c.1 c.2 vy vx u h tk hn.1 hn.2 hy hx F
  · intro c u h tk _ F N
    exact done c.1 c.2 u h tk F N
theorem twE_intro {stored : List Str} {m₀ m' : Str → Option Value} {e0 e3 : Addr × Obj} {cx cy : Addr} {oy ox : Obj} {n' : List (Addr × Obj)} {vy vx : Option Value} (hs : SubL [e0, (cx, ox), (cy, oy), e3] n') (hy : oy.data = .cell vy) (hx : ox.data = .cell vx) (hz : ∀ z, stored.contains z = false → m' z = m₀ z) :
    TwE stored m₀ (tw3L e0 e3 cx cy) Tw3F m' n' := ⟨(oy, ox), ⟨⟨_, hy⟩, ⟨_, hx⟩⟩, hs, hz⟩
end
end Mine

end
end
section
namespace Mine
/-! the reductions of _ilog against the logarithm -/
section
variable {M x y s : Int} {R : Nat}
theorem c2pos (R : Nat) : (0 : Rat) < 2 ^ R := Rat.pow_pos (by decide)
theorem cast_two_pow (R : Nat) : (((2 : Int) ^ R : Int) : Rat) = (2 : Rat) ^ R := by
  rw [Rat.intCast_pow]; rfl
/-- divN in the rationals -/
theorem divN_rat (a : Int) {b : Int} (hb : 0 < b) : -(1 / 2 : Rat) ≤ (divN a b : Rat) - (a : Rat) / b ∧ (divN a b : Rat) - (a : Rat) / b ≤ 1 / 2 := by
  obtain ⟨h1, h2⟩ := divN_bounds a hb
  have hb' : (0 : Rat) < b := by exact_mod_cast hb
  have g1 : (2 : Rat) * a - b ≤ 2 * (divN a b * b) := by exact_mod_cast h1
  have g2 : (2 : Rat) * (divN a b * b) ≤ 2 * a + b := by exact_mod_cast h2
  have e := fld3 (A := (b : Rat)) (B := (a : Rat)) hb'
  generalize (divN a b : Rat) = d at *
  generalize (a : Rat) / b = q at *
  constructor
  · rcases rlt_or_le (d - q) (-(1 / 2)) with h | h
    · have := Rat.mul_lt_mul_of_pos_right h hb'
      grind
    · exact h
  · rcases rlt_or_le (1 / 2) (d - q) with h | h
    · have := Rat.mul_lt_mul_of_pos_right h hb'
      grind
    · exact h
end
/-- one reduction in the rationals: v, w = s / M, v' -/
theorem red_core {m v w v' r a δ κ : Rat} (hm : 0 < m) (hw : 0 < w) (ha : a * (1 + w) = v) (hv' : v' = a + δ) 
    (hr1 : -κ ≤ r - v) (hr2 : r - v ≤ κ) (hs1 : w * w - 1 - r ≤ w / m) (hs2 : -(w / m) ≤ w * w - 1 - r) :
    ∃ η : Rat, (1 + v) - (1 + v') * (1 + v') = a * η - 2 * (1 + v') * δ + δ * δ ∧ -(w / m + κ) ≤ η * (1 + w) ∧ η * (1 + w) ≤ w / m + κ := by
  refine ⟨(w * w - 1 - v) / (1 + w), ?_, ?_, ?_⟩
  · subst hv'
    have hw1 : 1 + w ≠ 0 := by grind
    have e : a * ((w * w - 1 - v) / (1 + w)) = a * (w - 1 - a) := by
      rw [← ha]
      grind
    rw [e, ← ha]
    grind
  · have : (w * w - 1 - v) / (1 + w) * (1 + w) = w * w - 1 - v := fld3 (by grind)
    grind
  · have : (w * w - 1 - v) / (1 + w) * (1 + w) = w * w - 1 - v := fld3 (by grind)
    grind
end Mine

end
section
namespace Mine
/-- v = y / (2^R M) -/
def vr (M : Int) (R : Nat) (y : Int) : Rat := (y : Rat) / (2 ^ R * M)
theorem rabs_mul {a b A B : Rat} (h1 : -A ≤ a) (h2 : a ≤ A) (h3 : -B ≤ b) (h4 : b ≤ B) : -(A * B) ≤ a * b ∧ a * b ≤ A * B := by
  have c1 := Rat.mul_nonneg (show 0 ≤ A - a by grind) (show 0 ≤ B - b by grind)
  have c2 := Rat.mul_nonneg (show 0 ≤ A - a by grind) (show 0 ≤ B + b by grind)
  have c3 := Rat.mul_nonneg (show 0 ≤ A + a by grind) (show 0 ≤ B - b by grind)
  have c4 := Rat.mul_nonneg (show 0 ≤ A + a by grind) (show 0 ≤ B + b by grind)
  constructor <;> grind
theorem divN_one (y : Int) : divN y 1 = y := by
  unfold divN
  rw [Int.ediv_one, Int.emod_one]
  split
  · omega
  · omega
theorem fld4 {P m t y' z : Rat} (hP : 0 < P) (hm : 0 < m) (ht : 0 < t) : 4 * (P * m) * (y' / (P * 2 * m) - z / (P * m) / (1 + t / m)) = 2 * (y' - m * z * 2 / (m + t)) := by
  have h1 : P ≠ 0 := by grind
  have h2 : m ≠ 0 := by grind
  have h3 : m + t ≠ 0 := by grind
  have h4 : 1 + t / m ≠ 0 := by
    have := rdiv_pos ht hm
    grind
  have e1 : 4 * (P * m) * (y' / (P * 2 * m)) = 2 * y' := by grind
  have e2 : (1 + t / m) * m = m + t := by grind
  have e3 : z / (P * m) / (1 + t / m) * ((P * m) * (m + t)) = m * z := by
    rw [← e2]
    have : z / (P * m) / (1 + t / m) * (1 + t / m) = z / (P * m) := by grind
    have k : z / (P * m) / (1 + t / m) * (P * m * ((1 + t / m) * m)) = (z / (P * m) / (1 + t / m) * (1 + t / m)) * (P * m) * m := by grind
    rw [k, this]
    have : z / (P * m) * (P * m) = z := by
      have : P * m ≠ 0 := by grind
      grind
    rw [this]; grind
  have e4 : z / (P * m) / (1 + t / m) * (P * m) = m * z / (m + t) := by
    generalize z / (P * m) / (1 + t / m) = X at *
    grind
  have e5 : 4 * (P * m) * (z / (P * m) / (1 + t / m)) = 4 * (m * z / (m + t)) := by rw [← e4]; grind
  have e6 : m * z * 2 / (m + t) = 2 * (m * z / (m + t)) := by grind
  rw [e6]
  generalize y' / (P * 2 * m) = A at *
  generalize z / (P * m) / (1 + t / m) = B at *
  generalize m * z / (m + t) = D at *
  have e7 : 4 * (P * m) * (A - B) = 4 * (P * m) * A - 4 * (P * m) * B := by grind
  rw [e7, e1, e5]
  grind
/-- the facts of one reduction -/
theorem step_facts {M y s : Int} {R : Nat} (hM : 0 < M) (hs : IsSq (M * (M + divN y (2 ^ R))) s) (κ : Rat) (hκ : κ = 1 / 2 ∨ (R = 0 ∧ κ = 0)) :
    ∃ a δ η : Rat, vr M (R + 1) (divN (M * y * 2) (M + s)) = a + δ ∧ -1 ≤ 4 * (2 ^ R * M) * δ ∧ 4 * (2 ^ R * M) * δ ≤ 1 ∧
      (1 + vr M R y) - (1 + vr M (R + 1) (divN (M * y * 2) (M + s))) * (1 + vr M (R + 1) (divN (M * y * 2) (M + s))) = a * η - 2 * (1 + vr M (R + 1) (divN (M * y * 2) (M + s))) * δ + δ * δ ∧
      -((s : Rat) / M + κ) ≤ η * (1 + (s : Rat) / M) * M ∧ η * (1 + (s : Rat) / M) * M ≤ (s : Rat) / M + κ := by
  have hm : (0 : Rat) < M := by exact_mod_cast hM
  have hs0 : (0 : Rat) < s := by exact_mod_cast hs.1
  have hP := c2pos R
  have hw : 0 < (s : Rat) / M := rdiv_pos hs0 hm
  have d1 := divN_rat (M * y * 2) (b := M + s) (by have := hs.1; omega)
  -- the root
  have q1 : (s : Rat) * s - s ≤ M * (M + divN y (2 ^ R)) := by
    have := hs.2.1
    have h : s * s - s ≤ M * (M + divN y (2 ^ R)) := by omega
    exact_mod_cast h
  have q2 : (M : Rat) * (M + divN y (2 ^ R)) ≤ (s : Rat) * s + s := by exact_mod_cast hs.2.2
  have hr : -κ ≤ (divN y (2 ^ R) : Rat) - (y : Rat) / 2 ^ R ∧ (divN y (2 ^ R) : Rat) - (y : Rat) / 2 ^ R ≤ κ := by
    rcases hκ with h | ⟨h0, h⟩
    · have := divN_rat y (b := 2 ^ R) (Int.pow_pos (by decide))
      rw [cast_two_pow] at this
      rw [h]
      constructor <;> grind
    · subst h0 h
      rw [show (2 : Int) ^ 0 = 1 from rfl, divN_one, Rat.pow_zero]
      constructor <;> grind
  generalize (divN y (2 ^ R) : Rat) = ρ at *
  generalize hy' : (divN (M * y * 2) (M + s) : Rat) = y' at *
  have eM : (((M * y * 2 : Int) : Rat)) = M * y * 2 := by push_cast; rfl
  have eS : (((M + s : Int) : Rat)) = M + s := by push_cast; rfl
  rw [eM, eS] at d1
  unfold vr
  rw [hy', Rat.pow_succ]
  generalize (2 : Rat) ^ R = P at *
  generalize (M : Rat) = m at *
  generalize (s : Rat) = t at *
  generalize (y : Rat) = z at *
  have hm0 : m ≠ 0 := by grind
  have hP0 : P ≠ 0 := by grind
  have hPm : 0 < P * m := Rat.mul_pos hP hm
  have hw1 : 0 < 1 + t / m := by grind
  have core := red_core (m := m) (v := z / (P * m)) (w := t / m) (v' := y' / (P * 2 * m)) (r := ρ / m) (a := z / (P * m) / (1 + t / m)) (δ := y' / (P * 2 * m) - z / (P * m) / (1 + t / m)) (κ := κ / m) hm hw (fld3 hw1) (by grind)
    (by
      have e : ρ / m - z / (P * m) = (ρ - z / P) / m := by grind
      rw [e]
      refine le_rdiv hm ?_
      have : -(κ / m) * m = -κ := by grind
      grind)
    (by
      have e : ρ / m - z / (P * m) = (ρ - z / P) / m := by grind
      rw [e]
      refine rdiv_le hm ?_
      have : κ / m * m = κ := by grind
      grind)
    (by
      have e : t / m * (t / m) - 1 - ρ / m = (t * t - m * (m + ρ)) / (m * m) := by grind
      rw [e]
      refine rdiv_le (Rat.mul_pos hm hm) ?_
      have : t / m / m * (m * m) = t := by grind
      grind)
    (by
      have e : t / m * (t / m) - 1 - ρ / m = (t * t - m * (m + ρ)) / (m * m) := by grind
      rw [e]
      refine le_rdiv (Rat.mul_pos hm hm) ?_
      have : -(t / m / m) * (m * m) = -t := by grind
      grind)
  obtain ⟨η, c1, c2, c3⟩ := core
  refine ⟨z / (P * m) / (1 + t / m), y' / (P * 2 * m) - z / (P * m) / (1 + t / m), η, by grind, ?_, ?_, c1, ?_, ?_⟩
  · rw [fld4 hP hm hs0]; grind
  · rw [fld4 hP hm hs0]; grind
  · have h := Rat.mul_le_mul_of_nonneg_right c2 (Rat.le_of_lt hm)
    have e : -(t / m / m + κ / m) * m = -(t / m + κ) := by grind
    grind
  · have h := Rat.mul_le_mul_of_nonneg_right c3 (Rat.le_of_lt hm)
    have e : (t / m / m + κ / m) * m = t / m + κ := by grind
    grind
end Mine

end
section
namespace Mine
theorem rpow_add (a : Rat) (m : Nat) : ∀ n : Nat, a ^ (m + n) = a ^ m * a ^ n
  | 0 => by rw [Nat.add_zero, Rat.pow_zero, Rat.mul_one]
  | n + 1 => by rw [← Nat.add_assoc, Rat.pow_succ, Rat.pow_succ, rpow_add a m n]; grind
def Qr (x M : Int) (R : Nat) (y : Int) : Rat := ((x : Rat) / M) / (1 + vr M R y) ^ (2 ^ R : Nat)
/-- log (x / M) lies within A of 2^R log (1 + v) -/
def IlInv (x M : Int) (R : Nat) (y : Int) (A : Rat) : Prop := 0 < 1 + vr M R y ∧ Lg (-A) (Qr x M R y) ∧ Ug A (Qr x M R y)
theorem IlInv.zero {x M : Int} (hM : 0 < M) (hx : 0 < x) : IlInv x M 0 (x - M) 0 := by
  have hm : (0 : Rat) < M := by exact_mod_cast hM
  have hx' : (0 : Rat) < x := by exact_mod_cast hx
  have e : 1 + vr M 0 (x - M) = (x : Rat) / M := by
    unfold vr
    rw [Rat.pow_zero]
    have : (((x - M : Int)) : Rat) = x - M := by push_cast; rfl
    rw [this]
    have : (M : Rat) ≠ 0 := by grind
    grind
  have hp : 0 < (x : Rat) / M := rdiv_pos hx' hm
  have q : Qr x M 0 (x - M) = 1 := by
    unfold Qr
    rw [e, show (2 : Nat) ^ 0 = 1 from rfl, Rat.pow_succ, Rat.pow_zero]
    have : (x : Rat) / M ≠ 0 := by grind
    grind
  refine ⟨by rw [e]; exact hp, ?_, ?_⟩
  · rw [q]; exact Lg.zero.mono (by grind) (by grind)
  · rw [q]; exact Ug.zero
theorem IlInv.step {x M y y' : Int} {R : Nat} {A n l : Rat} (h : IlInv x M R y A) (hv' : 0 < 1 + vr M (R + 1) y') (hl : 0 < l) (hn : 0 ≤ n) (l1 : l ≤ 1 + vr M R y) (l2 : l ≤ (1 + vr M (R + 1) y') * (1 + vr M (R + 1) y'))
    (h1 : -n ≤ (1 + vr M R y) - (1 + vr M (R + 1) y') * (1 + vr M (R + 1) y')) (h2 : (1 + vr M R y) - (1 + vr M (R + 1) y') * (1 + vr M (R + 1) y') ≤ n) : IlInv x M (R + 1) y' (A + 2 ^ R * (n / l)) := by
  obtain ⟨h0, hL, hU⟩ := h
  generalize ha : 1 + vr M R y = a at *
  generalize hb : 1 + vr M (R + 1) y' = b at *
  have hbb : 0 < b * b := Rat.mul_pos hv' hv'
  have hρ : 0 < a / (b * b) := rdiv_pos h0 hbb
  have hnl : 0 ≤ n / l := le_rdiv hl (by grind)
  have nl : n / l * l = n := fld3 hl
  have bL : Lg (-(n / l)) (a / (b * b)) := by
    refine (Lg.basic (t := b * b / a) (rdiv_pos hbb h0) ?_).mono ?_ Rat.le_refl
    · rw [rdiv_mul hbb]
      have : a / a = 1 := by have : a ≠ 0 := by grind
                             grind
      grind
    · have : b * b / a ≤ 1 + n / l := by
        refine rdiv_le h0 ?_
        have := Rat.mul_nonneg hnl (show 0 ≤ a - l by grind)
        grind
      grind
  have bU : Ug (n / l) (a / (b * b)) := by
    refine (Ug.basic hρ).mono ?_ Rat.le_refl
    have : a / (b * b) ≤ 1 + n / l := by
      refine rdiv_le hbb ?_
      have := Rat.mul_nonneg hnl (show 0 ≤ b * b - l by grind)
      grind
    grind
  have eQ : Qr x M (R + 1) y' = Qr x M R y * (a / (b * b)) ^ (2 ^ R : Nat) := by
    unfold Qr
    rw [ha, hb]
    have e1 : b ^ (2 ^ (R + 1) : Nat) = (b * b) ^ (2 ^ R : Nat) := by
      rw [rmul_pow, ← rpow_add]
      congr 1
      rw [Nat.pow_succ]; omega
    have e2 : a ^ (2 ^ R : Nat) = (a / (b * b)) ^ (2 ^ R : Nat) * (b * b) ^ (2 ^ R : Nat) := by
      rw [← rmul_pow, fld3 hbb]
    rw [e1, e2]
    have p1 : (a / (b * b)) ^ (2 ^ R : Nat) ≠ 0 := by have := rpow_pos hρ (2 ^ R); grind
    have p2 : (b * b) ^ (2 ^ R : Nat) ≠ 0 := by have := rpow_pos hbb (2 ^ R); grind
    generalize (a / (b * b)) ^ (2 ^ R : Nat) = U at *
    generalize (b * b) ^ (2 ^ R : Nat) = V at *
    generalize (x : Rat) / M = X at *
    grind
  have cst : (((2 ^ R : Nat)) : Rat) = (2 : Rat) ^ R := by push_cast; rfl
  refine ⟨by rw [hb]; exact hv', ?_, ?_⟩
  · rw [eQ]
    refine (Lg.add hL (Lg.pow bL (2 ^ R))).mono ?_ Rat.le_refl
    rw [cst]; grind
  · rw [eQ]
    refine (Ug.add (rpow_pos hρ _) hU (Ug.pow hρ bU (2 ^ R))).mono ?_ Rat.le_refl
    rw [cst]; grind
/-- what comes of it: log (x / M) from 2^R log (1 + v) -/
theorem IlInv.lo {x M y : Int} {R : Nat} {A r : Rat} (h : IlInv x M R y A) (hr : Lg r (1 + vr M R y)) : Lg (2 ^ R * r - A) ((x : Rat) / M) := by
  obtain ⟨h0, hL, hU⟩ := h
  have p := rpow_pos h0 (2 ^ R)
  have e : Qr x M R y * (1 + vr M R y) ^ (2 ^ R : Nat) = (x : Rat) / M := fld3 p
  have cst : (((2 ^ R : Nat)) : Rat) = (2 : Rat) ^ R := by push_cast; rfl
  have k := Lg.add hL (Lg.pow hr (2 ^ R))
  rw [e, cst] at k
  exact k.mono (by grind) Rat.le_refl
theorem IlInv.hi {x M y : Int} {R : Nat} {A r : Rat} (h : IlInv x M R y A) (hr : Ug r (1 + vr M R y)) : Ug (2 ^ R * r + A) ((x : Rat) / M) := by
  obtain ⟨h0, hL, hU⟩ := h
  have p := rpow_pos h0 (2 ^ R)
  have e : Qr x M R y * (1 + vr M R y) ^ (2 ^ R : Nat) = (x : Rat) / M := fld3 p
  have cst : (((2 ^ R : Nat)) : Rat) = (2 : Rat) ^ R := by push_cast; rfl
  have k := Ug.add p hU (Ug.pow h0 hr (2 ^ R))
  rw [e, cst] at k
  exact k.mono (by grind) Rat.le_refl
end Mine

end
section
namespace Mine
open PySem.W
theorem cast_k {M : Int} (h : 1000 ≤ M) : (1000 : Rat) ≤ M := by
  have := Rat.intCast_le_intCast.mpr h
  rwa [show (((1000 : Int)) : Rat) = 1000 from rfl] at this
theorem downKs_succ (a : Int) (n : Nat) : downKs a (n + 1) = downKs a n ++ [a - n] := by
  unfold downKs
  rw [List.range_succ, List.map_append]; rfl
theorem horn_succ (M ys w a : Int) (n : Nat) : horn M ys w (downKs a (n + 1)) = divN M (a - n) - divN (ys * horn M ys w (downKs a n)) M := by
  rw [downKs_succ]; unfold horn; rw [List.foldl_append]; rfl
/-- the ideal Horner -/
def idU (v : Rat) (T : Nat) : Nat → Rat
  | 0 => 1 / (T : Rat)
  | i + 1 => 1 / ((T - 1 - i : Nat) : Rat) - v * idU v T i
theorem idU_lgS (v : Rat) (T : Nat) : ∀ i : Nat, i + 1 ≤ T → lgS v T - lgS v (T - 1 - i) = -((-v) ^ (T - i)) * idU v T i
  | 0, h => by
    obtain ⟨S, rfl⟩ : ∃ S, T = S + 1 := ⟨T - 1, by omega⟩
    simp only [idU, Nat.sub_zero, Nat.add_sub_cancel, lgS]
    push_cast
    grind
  | i + 1, h => by
    have ih := idU_lgS v T i (by omega)
    obtain ⟨S, hS⟩ : ∃ S, T - 1 - i = S + 1 := ⟨T - 1 - i - 1, by omega⟩
    have e1 : T - 1 - (i + 1) = S := by omega
    have e2 : T - (i + 1) = S + 1 := by omega
    have e3 : T - i = S + 1 + 1 := by omega
    rw [hS, e3] at ih
    rw [e1, e2]
    simp only [idU, hS]
    simp only [lgS] at ih
    rw [Rat.pow_succ (-v) (S + 1)] at ih
    push_cast at ih ⊢
    generalize (-v) ^ (S + 1) = X at *
    have hS0 : (S : Rat) + 1 ≠ 0 := by
      have : (0 : Rat) ≤ S := Rat.natCast_nonneg
      grind
    grind
theorem idU_one (v : Rat) {T : Nat} (hT : 1 ≤ T) : v * idU v T (T - 1) = lgS v T := by
  have := idU_lgS v T (T - 1) (by omega)
  rw [show T - 1 - (T - 1) = 0 by omega, show T - (T - 1) = 1 by omega, Rat.pow_succ, Rat.pow_zero] at this
  simp only [lgS] at this
  grind
theorem one_div_le {n : Nat} (hn : 2 ≤ n) : 0 ≤ 1 / (n : Rat) ∧ 1 / (n : Rat) ≤ 1 / 2 := by
  have h : (2 : Rat) ≤ n := by exact_mod_cast hn
  exact ⟨le_rdiv (by grind) (by grind), rdiv_le (by grind) (by grind)⟩
/-- the Horner loop of ints against the ideal one -/
theorem horn_err {M ys : Int} {v κ : Rat} {T : Nat} (hM : 1000 ≤ M) (hT : 2 ≤ T) (hv1 : -(1 / 256) ≤ v) (hv2 : v ≤ 1 / 256)
    (hk0 : 0 ≤ κ) (hk1 : κ ≤ 1 / 2) (hy1 : -κ ≤ (ys : Rat) - v * M) (hy2 : (ys : Rat) - v * M ≤ κ) : ∀ i : Nat, i + 2 ≤ T →
    -(3 / 2 : Rat) ≤ (horn M ys (divN M T) (downKs ((T : Int) - 1) i) : Rat) - M * idU v T i ∧ (horn M ys (divN M T) (downKs ((T : Int) - 1) i) : Rat) - M * idU v T i ≤ 3 / 2 ∧ -(13 / 25 : Rat) ≤ idU v T i ∧ idU v T i ≤ 13 / 25
  | 0, h => by
    have d := divN_rat M (b := (T : Int)) (by omega)
    have o := one_div_le hT
    have e : horn M ys (divN M T) (downKs ((T : Int) - 1) 0) = divN M T := rfl
    rw [e]
    simp only [idU]
    have e2 : (M : Rat) * (1 / (T : Rat)) = (M : Rat) / ((T : Int) : Rat) := by
      rw [Rat.intCast_natCast]
      grind
    rw [e2]
    refine ⟨?_, ?_, ?_, ?_⟩ <;> grind
  | i + 1, h => by
    obtain ⟨a, b, c, d⟩ := horn_err hM hT hv1 hv2 hk0 hk1 hy1 hy2 i (by omega)
    rw [horn_succ]
    have k1 : (T : Int) - 1 - i = ((T - 1 - i : Nat) : Int) := by omega
    rw [k1]
    have d1 := divN_rat M (b := ((T - 1 - i : Nat) : Int)) (by omega)
    have d2 := divN_rat (ys * horn M ys (divN M T) (downKs ((T : Int) - 1) i)) (b := M) (by omega)
    have o := one_div_le (n := T - 1 - i) (by omega)
    have hm := cast_k hM
    simp only [idU]
    generalize horn M ys (divN M T) (downKs ((T : Int) - 1) i) = w at *
    have ec : (((ys * w : Int)) : Rat) = ys * w := by push_cast; rfl
    rw [ec] at d2
    rw [Rat.intCast_natCast] at d1
    have esub : (((divN M ((T - 1 - i : Nat) : Int) - divN (ys * w) M : Int)) : Rat) = (divN M ((T - 1 - i : Nat) : Int) : Rat) - (divN (ys * w) M : Rat) := by push_cast; rfl
    rw [esub]
    generalize (divN M ((T - 1 - i : Nat) : Int) : Rat) = D1 at *
    generalize (divN (ys * w) M : Rat) = D2 at *
    generalize idU v T i = U at *
    generalize hn : ((T - 1 - i : Nat) : Rat) = n at *
    generalize (ys : Rat) = z at *
    generalize (w : Rat) = W at *
    generalize (M : Rat) = m at *
    have hn1 : m * (1 / n) = m / n := by grind
    have hm0 : m ≠ 0 := by grind
    -- z W / m = v m U + (z/m)(W - m U) + (z - v m) U
    have ez : z * W / m = v * m * U + z / m * (W - m * U) + (z - v * m) * U := by grind
    have hz1 : -(1 / 200 : Rat) ≤ z / m := le_rdiv (by grind) (by
      have := Rat.mul_nonneg (show (0 : Rat) ≤ v + 1 / 256 by grind) (show (0 : Rat) ≤ m by grind)
      grind)
    have hz2 : z / m ≤ 1 / 200 := rdiv_le (by grind) (by
      have := Rat.mul_nonneg (show (0 : Rat) ≤ 1 / 256 - v by grind) (show (0 : Rat) ≤ m by grind)
      grind)
    have p1 := rabs_mul hz1 hz2 a b
    have p2 := rabs_mul (A := 1 / 2) (B := 13 / 25) (show -(1 / 2) ≤ z - v * m by grind) (by grind) c d
    have p3 := rabs_mul hv1 hv2 c d
    have em : m * (1 / n - v * U) = m / n - v * m * U := by grind
    rw [em]
    rw [ez] at d2
    generalize z / m * (W - m * U) = X1 at *
    generalize (z - v * m) * U = X2 at *
    refine ⟨?_, ?_, ?_, ?_⟩ <;> grind
/-- the last turn, and the product -/
theorem tail_err {M ys y : Int} {v κ : Rat} {T R : Nat} (hM : 1000 ≤ M) (hT : 2 ≤ T) (hv1 : -(1 / 256) ≤ v) (hv2 : v ≤ 1 / 256) (hvy : v * (2 ^ R * M) = y)
    (hk0 : 0 ≤ κ) (hk1 : κ ≤ 1 / 2) (hy1 : -κ ≤ (ys : Rat) - v * M) (hy2 : (ys : Rat) - v * M ≤ κ) {Y : Rat} (hY1 : -Y ≤ (y : Rat)) (hY2 : (y : Rat) ≤ Y) :
    -(1 / 2 + (51 / 100 + 13 / 25 * κ) * (Y / M)) ≤ (divN (horn M ys (divN M T) (downKs ((T : Int) - 1) (T - 1)) * y) M : Rat) - 2 ^ R * M * lgS v T ∧
    (divN (horn M ys (divN M T) (downKs ((T : Int) - 1) (T - 1)) * y) M : Rat) - 2 ^ R * M * lgS v T ≤ 1 / 2 + (51 / 100 + 13 / 25 * κ) * (Y / M) := by
  obtain ⟨a, b, c, d⟩ := horn_err hM hT hv1 hv2 hk0 hk1 hy1 hy2 (T - 2) (by omega)
  obtain ⟨S, rfl⟩ : ∃ S, T = S + 2 := ⟨T - 2, by omega⟩
  rw [show S + 2 - 1 = S + 1 by omega, horn_succ]
  rw [show S + 2 - 2 = S by omega] at a b c d
  have k1 : ((S + 2 : Nat) : Int) - 1 - (S : Nat) = 1 := by omega
  rw [k1, divN_one]
  have hI := idU_one v (T := S + 2) (by omega)
  rw [show S + 2 - 1 = S + 1 by omega] at hI
  have hm := cast_k hM
  simp only [idU] at hI
  rw [show S + 2 - 1 - S = 1 by omega] at hI
  generalize horn M ys (divN M ((S + 2 : Nat) : Int)) (downKs (((S + 2 : Nat) : Int) - 1) S) = w at *
  generalize idU v (S + 2) S = U at *
  have d2 := divN_rat (ys * w) (b := M) (by omega)
  have d3 := divN_rat ((M - divN (ys * w) M) * y) (b := M) (by omega)
  have ec : (((ys * w : Int)) : Rat) = ys * w := by push_cast; rfl
  rw [ec] at d2
  have ec2 : ((((M - divN (ys * w) M) * y : Int)) : Rat) = (M - divN (ys * w) M) * y := by push_cast; rfl
  rw [ec2] at d3
  generalize (divN ((M - divN (ys * w) M) * y) M : Rat) = D at *
  generalize (divN (ys * w) M : Rat) = D2 at *
  rw [← hI, show (((1 : Nat)) : Rat) = 1 from rfl]
  have e4 : 2 ^ R * M * (v * (1 / 1 - v * U)) = (v * (2 ^ R * M)) * (1 - v * U) := by grind
  rw [e4, hvy]
  generalize (y : Rat) = q at *
  generalize (ys : Rat) = z at *
  generalize (w : Rat) = W at *
  generalize (M : Rat) = m at *
  have hm0 : m ≠ 0 := by grind
  have ez : z * W / m = v * m * U + z / m * (W - m * U) + (z - v * m) * U := by grind
  have hz1 : -(1 / 200 : Rat) ≤ z / m := le_rdiv (by grind) (by
    have := Rat.mul_nonneg (show (0 : Rat) ≤ v + 1 / 256 by grind) (show (0 : Rat) ≤ m by grind)
    grind)
  have hz2 : z / m ≤ 1 / 200 := rdiv_le (by grind) (by
    have := Rat.mul_nonneg (show (0 : Rat) ≤ 1 / 256 - v by grind) (show (0 : Rat) ≤ m by grind)
    grind)
  have p1 := rabs_mul hz1 hz2 a b
  have p2 := rabs_mul hy1 hy2 c d
  rw [ez] at d2
  -- m - D2 = m (1 - v U) + small
  have hE1 : -(51 / 100 + 13 / 25 * κ) ≤ (m - D2) - m * (1 - v * U) := by grind
  have hE2 : (m - D2) - m * (1 - v * U) ≤ 51 / 100 + 13 / 25 * κ := by grind
  have hq1 : -(Y / m) ≤ q / m := by
    refine le_rdiv (by grind) ?_
    have : Y / m * m = Y := fld3 (by grind)
    grind
  have hq2 : q / m ≤ Y / m := by
    refine rdiv_le (by grind) ?_
    have : Y / m * m = Y := fld3 (by grind)
    grind
  have p3 := rabs_mul hE1 hE2 hq1 hq2
  have e5 : (m - D2) * q / m = q * (1 - v * U) + ((m - D2) - m * (1 - v * U)) * (q / m) := by grind
  rw [e5] at d3
  generalize ((m - D2) - m * (1 - v * U)) * (q / m) = X at *
  constructor <;> grind
end Mine

end
section
namespace Mine
open PySem.W
theorem vr_eq {M y : Int} {R : Nat} (hM : 0 < M) : vr M R y * (2 ^ R * M) = y := by
  have hm : (0 : Rat) < M := by exact_mod_cast hM
  exact fld3 (Rat.mul_pos (c2pos R) hm)
theorem step_N {M y s : Int} {R : Nat} {θ κ Y : Rat} (hM : 0 < M) (hs : IsSq (M * (M + divN y (2 ^ R))) s) (hκ : κ = 1 / 2 ∨ (R = 0 ∧ κ = 0))
    (hθ : (s : Rat) / M + κ ≤ θ * (1 + (s : Rat) / M)) (hY1 : -Y ≤ (divN (M * y * 2) (M + s) : Rat)) (hY2 : (divN (M * y * 2) (M + s) : Rat) ≤ Y)
    (hv' : 0 < 1 + vr M (R + 1) (divN (M * y * 2) (M + s))) :
    -(θ * (Y / (2 * M) + 1 / (4 * M)) + (1 + vr M (R + 1) (divN (M * y * 2) (M + s))) / 2 + 1 / (16 * M)) ≤ 2 ^ R * M * ((1 + vr M R y) - (1 + vr M (R + 1) (divN (M * y * 2) (M + s))) * (1 + vr M (R + 1) (divN (M * y * 2) (M + s)))) ∧
    2 ^ R * M * ((1 + vr M R y) - (1 + vr M (R + 1) (divN (M * y * 2) (M + s))) * (1 + vr M (R + 1) (divN (M * y * 2) (M + s)))) ≤ θ * (Y / (2 * M) + 1 / (4 * M)) + (1 + vr M (R + 1) (divN (M * y * 2) (M + s))) / 2 + 1 / (16 * M) := by
  obtain ⟨a, δ, η, f1, f2, f3, f4, f5, f6⟩ := step_facts hM hs κ hκ
  have hm : (0 : Rat) < M := by exact_mod_cast hM
  have hs0 : (0 : Rat) < s := by exact_mod_cast hs.1
  have hw : 0 < (s : Rat) / M := rdiv_pos hs0 hm
  have hP := c2pos R
  have hP1 : (1 : Rat) ≤ 2 ^ R := by
    have : ∀ R : Nat, (1 : Rat) ≤ 2 ^ R := by
      intro R
      induction R with
      | zero => rw [Rat.pow_zero]; grind
      | succ R ih => rw [Rat.pow_succ]; grind
    exact this R
  have ev := vr_eq (R := R + 1) (y := divN (M * y * 2) (M + s)) hM
  rw [Rat.pow_succ] at ev
  generalize hy' : divN (M * y * 2) (M + s) = y' at *
  generalize hvv : vr M (R + 1) y' = v' at *
  have hm2 : 0 < (2 : Rat) ^ R * M := Rat.mul_pos hP hm
  have hw1 : 0 < 1 + (s : Rat) / M := by grind
  -- |η| m ≤ θ
  have hη1 : -θ ≤ η * M := by
    rcases rlt_or_le (η * M) (-θ) with g | g
    · have := Rat.mul_lt_mul_of_pos_right g hw1
      grind
    · exact g
  have hη2 : η * M ≤ θ := by
    rcases rlt_or_le θ (η * M) with g | g
    · have := Rat.mul_lt_mul_of_pos_right g hw1
      grind
    · exact g
  -- P |a|
  have ha : a = v' - δ := by grind
  have hPa1 : -(Y / (2 * M) + 1 / (4 * M)) ≤ 2 ^ R * a := by
    have e1 : 2 ^ R * v' = (y' : Rat) / (2 * M) := by rw [← ev]; grind
    have e2 : (-Y) / (2 * M) ≤ (y' : Rat) / (2 * M) := by
      refine le_rdiv (by grind) ?_
      have : -Y / (2 * M) * (2 * (M : Rat)) = -Y := fld3 (by grind)
      grind
    have e3 : 2 ^ R * δ ≤ 1 / (4 * M) := by
      refine le_rdiv (by grind) ?_
      grind
    have e4 : (-Y) / (2 * M) = -(Y / (2 * M)) := by grind
    rw [ha]; grind
  have hPa2 : 2 ^ R * a ≤ Y / (2 * M) + 1 / (4 * M) := by
    have e1 : 2 ^ R * v' = (y' : Rat) / (2 * M) := by rw [← ev]; grind
    have e2 : (y' : Rat) / (2 * M) ≤ Y / (2 * M) := by
      refine rdiv_le (by grind) ?_
      have : Y / (2 * M) * (2 * (M : Rat)) = Y := fld3 (by grind)
      grind
    have e3 : -(1 / (4 * M)) ≤ 2 ^ R * δ := by
      rcases rlt_or_le (2 ^ R * δ) (-(1 / (4 * (M : Rat)))) with g | g
      · have := Rat.mul_lt_mul_of_pos_right g (show (0 : Rat) < 4 * M by grind)
        have : 1 / (4 * (M : Rat)) * (4 * M) = 1 := fld3 (by grind)
        grind
      · exact g
    rw [ha]; grind
  have p1 := rabs_mul hPa1 hPa2 hη1 hη2
  have p2 := rabs_mul (a := 1 + v') (A := 1 + v') (b := 4 * (2 ^ R * M) * δ) (B := 1) (by grind) Rat.le_refl (by grind) f3
  have p3 : 2 ^ R * M * (δ * δ) ≤ 1 / (16 * M) := by
    refine le_rdiv (by grind) ?_
    have q1 := rabs_mul (a := 4 * (2 ^ R * M) * δ) (A := 1) (b := 4 * (2 ^ R * M) * δ) (B := 1) (by grind) f3 (by grind) f3
    have q2 := rsq_nonneg δ
    have q3 : 2 ^ R * M * (δ * δ) * (16 * M) * 2 ^ R = (4 * (2 ^ R * M) * δ) * (4 * (2 ^ R * M) * δ) := by grind
    have q4 : 0 ≤ 2 ^ R * M * (δ * δ) * (16 * M) := Rat.mul_nonneg (Rat.mul_nonneg (Rat.le_of_lt hm2) q2) (by grind)
    have q5 := Rat.mul_nonneg q4 (show (0 : Rat) ≤ 2 ^ R - 1 by grind)
    grind
  have p4 : 0 ≤ 2 ^ R * M * (δ * δ) := Rat.mul_nonneg (Rat.le_of_lt hm2) (rsq_nonneg δ)
  generalize hB : θ * (Y / (2 * M) + 1 / (4 * M)) + (1 + v') / 2 + 1 / (16 * (M : Rat)) = B
  have hN1 : -B ≤ 2 ^ R * M * ((1 + vr M R y) - (1 + v') * (1 + v')) := by
    rw [f4]
    have : 2 ^ R * M * (a * η - 2 * (1 + v') * δ + δ * δ) = 2 ^ R * a * (η * M) - (1 + v') * (4 * (2 ^ R * M) * δ) / 2 + 2 ^ R * M * (δ * δ) := by grind
    rw [this]; grind
  have hN2 : 2 ^ R * M * ((1 + vr M R y) - (1 + v') * (1 + v')) ≤ B := by
    rw [f4]
    have : 2 ^ R * M * (a * η - 2 * (1 + v') * δ + δ * δ) = 2 ^ R * a * (η * M) - (1 + v') * (4 * (2 ^ R * M) * δ) / 2 + 2 ^ R * M * (δ * δ) := by grind
    rw [this]; grind
  exact ⟨hN1, hN2⟩
theorem step_gen {x M y s : Int} {R : Nat} {A θ κ Y l : Rat} (hM : 0 < M) (h : IlInv x M R y A) (hs : IsSq (M * (M + divN y (2 ^ R))) s) (hκ : κ = 1 / 2 ∨ (R = 0 ∧ κ = 0))
    (hθ : (s : Rat) / M + κ ≤ θ * (1 + (s : Rat) / M)) (hY1 : -Y ≤ (divN (M * y * 2) (M + s) : Rat)) (hY2 : (divN (M * y * 2) (M + s) : Rat) ≤ Y)
    (hv' : 0 < 1 + vr M (R + 1) (divN (M * y * 2) (M + s))) (hl : 0 < l) (l1 : l ≤ 1 + vr M R y) (l2 : l ≤ (1 + vr M (R + 1) (divN (M * y * 2) (M + s))) * (1 + vr M (R + 1) (divN (M * y * 2) (M + s)))) :
    IlInv x M (R + 1) (divN (M * y * 2) (M + s)) (A + (θ * (Y / (2 * M) + 1 / (4 * M)) + (1 + vr M (R + 1) (divN (M * y * 2) (M + s))) / 2 + 1 / (16 * M)) / (l * M)) := by
  obtain ⟨hN1, hN2⟩ := step_N hM hs hκ hθ hY1 hY2 hv'
  have hm : (0 : Rat) < M := by exact_mod_cast hM
  have hP := c2pos R
  have hm2 : 0 < (2 : Rat) ^ R * M := Rat.mul_pos hP hm
  generalize divN (M * y * 2) (M + s) = y' at *
  generalize hB : θ * (Y / (2 * M) + 1 / (4 * M)) + (1 + vr M (R + 1) y') / 2 + 1 / (16 * (M : Rat)) = B at *
  have hB0 : 0 ≤ B := by grind
  have st := IlInv.step (n := B / (2 ^ R * M)) h hv' hl (le_rdiv hm2 (by grind)) l1 l2 (by
      rcases rlt_or_le (1 + vr M R y - (1 + vr M (R + 1) y') * (1 + vr M (R + 1) y')) (-(B / (2 ^ R * M))) with g | g
      · have := Rat.mul_lt_mul_of_pos_right g hm2
        have : B / (2 ^ R * M) * (2 ^ R * M) = B := fld3 hm2
        grind
      · exact g) (le_rdiv hm2 (by grind))
  have e9 : 2 ^ R * (B / (2 ^ R * M) / l) = B / (l * M) := by
    have : (2 : Rat) ^ R ≠ 0 := by grind
    have : (M : Rat) ≠ 0 := by grind
    have : l ≠ 0 := by grind
    grind
  rw [e9] at st
  exact st
end Mine

end
section
namespace Mine
open PySem.W
theorem tays_two {p : Nat} (hp : 3 ≤ p) : 2 ≤ tays p := by unfold tays; omega
/-- 10 M is no more than 256^T -/
theorem tays_big (p : Nat) : (10 : Nat) ^ (p + 1) ≤ 256 ^ tays p := by
  have h : 10 * (p + 1) ≤ 24 * tays p := by unfold tays; omega
  have h1 : (10 ^ (p + 1)) ^ 3 ≤ ((256 : Nat) ^ tays p) ^ 3 := by
    have a1 : ((10 : Nat) ^ (p + 1)) ^ 3 = 1000 ^ (p + 1) := by rw [← Nat.pow_mul, Nat.mul_comm, Nat.pow_mul]
    have a2 : (1000 : Nat) ^ (p + 1) ≤ 1024 ^ (p + 1) := Nat.pow_le_pow_left (by decide) _
    have a3 : (1024 : Nat) ^ (p + 1) = 2 ^ (10 * (p + 1)) := by rw [Nat.pow_mul]
    have a4 : (2 : Nat) ^ (10 * (p + 1)) ≤ 2 ^ (24 * tays p) := Nat.pow_le_pow_right (by decide) h
    have a5 : (2 : Nat) ^ (24 * tays p) = (256 ^ tays p) ^ 3 := by
      rw [show (256 : Nat) = 2 ^ 8 from rfl, ← Nat.pow_mul, ← Nat.pow_mul]; congr 1; omega
    omega
  rcases Nat.lt_or_ge (256 ^ tays p) (10 ^ (p + 1)) with g | g
  · exfalso
    have := Nat.pow_lt_pow_left g (show 3 ≠ 0 by decide)
    omega
  · exact g
theorem rpow_le {a b : Rat} (h0 : 0 ≤ a) (h : a ≤ b) : ∀ n : Nat, a ^ n ≤ b ^ n ∧ 0 ≤ a ^ n
  | 0 => by rw [Rat.pow_zero, Rat.pow_zero]; grind
  | n + 1 => by
    obtain ⟨h1, h2⟩ := rpow_le h0 h n
    rw [Rat.pow_succ, Rat.pow_succ]
    have k1 := Rat.mul_nonneg (show 0 ≤ b ^ n - a ^ n by grind) (show 0 ≤ b by grind)
    have k2 := Rat.mul_nonneg h2 (show 0 ≤ b - a by grind)
    have k3 := Rat.mul_nonneg h2 h0
    constructor <;> grind
/-- what is cut off the series -/
theorem trunc_err {p R : Nat} {M y : Int} {Y : Rat} (hp : 3 ≤ p) (hM : M = 10 ^ p) (hY1 : -Y ≤ (y : Rat)) (hY2 : (y : Rat) ≤ Y) {u : Rat} (hu0 : 0 ≤ u) (hu : u * (2 ^ R * M) ≤ Y) (hu2 : u ≤ 1 / 256) :
    2 ^ R * M * (2 * u ^ (tays p + 1) / (tays p + 1)) ≤ 1 / 15 * (Y / M) := by
  have hT := tays_two hp
  have hb := tays_big p
  have hM0 : 0 < M := by rw [hM]; exact Int.pow_pos (by decide)
  have hm : (0 : Rat) < M := by exact_mod_cast hM0
  have hTq : (2 : Rat) ≤ tays p := by exact_mod_cast hT
  have hY0 : 0 ≤ Y := by grind
  have h1 := (rpow_le hu0 hu2 (tays p)).1
  have h0 := (rpow_le hu0 hu2 (tays p)).2
  have hbq : (10 : Rat) * M ≤ 256 ^ tays p := by
    have : ((10 ^ (p + 1) : Nat) : Rat) ≤ ((256 ^ tays p : Nat) : Rat) := by exact_mod_cast hb
    have e1 : ((10 ^ (p + 1) : Nat) : Rat) = 10 * M := by
      rw [hM, Rat.intCast_pow, show (((10 : Int)) : Rat) = 10 from rfl]
      push_cast
      rw [Rat.pow_succ]; grind
    have e2 : ((256 ^ tays p : Nat) : Rat) = 256 ^ tays p := by push_cast; rfl
    grind
  have e3 : (1 / 256 : Rat) ^ tays p * 256 ^ tays p = 1 := by
    rw [← rmul_pow, show (1 / 256 : Rat) * 256 = 1 by grind, one_rpow]
  have h2 : (1 / 256 : Rat) ^ tays p * (10 * M) ≤ 1 := by
    have := Rat.mul_le_mul_of_nonneg_left hbq (show (0 : Rat) ≤ (1 / 256) ^ tays p from Rat.le_of_lt (rpow_pos (by grind) _))
    grind
  have h3 : u ^ tays p * (10 * M) ≤ 1 := by
    have := Rat.mul_nonneg (show 0 ≤ (1 / 256 : Rat) ^ tays p - u ^ tays p by grind) (show (0 : Rat) ≤ 10 * M by grind)
    grind
  rw [Rat.pow_succ]
  have hn : 0 < (tays p : Rat) + 1 := by grind
  have e4 : 2 ^ R * M * (2 * (u ^ tays p * u) / (tays p + 1)) = 2 * (u * (2 ^ R * M)) * u ^ tays p / (tays p + 1) := by grind
  rw [e4]
  refine rdiv_le hn ?_
  have k1 := Rat.mul_nonneg (show 0 ≤ Y - u * (2 ^ R * M) by grind) h0
  have e5 : Y / M * M = Y := fld3 hm
  have hYM : 0 ≤ Y / M := le_rdiv hm (by grind)
  have k2 := Rat.mul_nonneg hYM (show 0 ≤ 1 - u ^ tays p * (10 * M) by grind)
  have k3 := Rat.mul_nonneg hYM (show 0 ≤ (tays p : Rat) + 1 - 3 by grind)
  generalize u ^ tays p = U at *
  generalize u * (2 ^ R * M) = W at *
  generalize Y / (M : Rat) = Z at *
  have e6 : Y * U = Z * (U * M) := by rw [← e5]; grind
  grind
theorem fin_lo {D Z κ A m P S t : Rat} (te : D - P * m * S ≤ 1 / 2 + (51 / 100 + 13 / 25 * κ) * Z) (tr : P * m * t ≤ 1 / 15 * Z) : D - (1 / 2 + (173 / 300 + 13 / 25 * κ) * Z + A * m) ≤ (P * (S - t) - A) * m := by
  have e : (P * (S - t) - A) * m = P * m * S - P * m * t - A * m := by grind
  rw [e]; grind
theorem fin_hi {D Z κ A m P S t : Rat} (te : -(1 / 2 + (51 / 100 + 13 / 25 * κ) * Z) ≤ D - P * m * S) (tr : P * m * t ≤ 1 / 15 * Z) : (P * (S + t) + A) * m ≤ D + (1 / 2 + (173 / 300 + 13 / 25 * κ) * Z + A * m) := by
  have e : (P * (S + t) + A) * m = P * m * S + P * m * t + A * m := by grind
  rw [e]; grind
/-- the answer of _ilog against the logarithm -/
theorem il_final {p R : Nat} {x M y : Int} {A Y κ : Rat} (hp : 3 ≤ p) (hM : M = 10 ^ p) (h : IlInv x M R y A) (hc : 256 * (y.natAbs : Int) < M * 2 ^ R)
    (hκ : κ = 1 / 2 ∨ (R = 0 ∧ κ = 0)) (hY1 : -Y ≤ (y : Rat)) (hY2 : (y : Rat) ≤ Y) :
    Lg (((ilTail p M R y : Rat) - (1 / 2 + (173 / 300 + 13 / 25 * κ) * (Y / M) + A * M)) / M) ((x : Rat) / M) ∧
    Ug (((ilTail p M R y : Rat) + (1 / 2 + (173 / 300 + 13 / 25 * κ) * (Y / M) + A * M)) / M) ((x : Rat) / M) := by
  have hM0 : 0 < M := by rw [hM]; exact Int.pow_pos (by decide)
  have hMk : 1000 ≤ M := by
    rw [hM]
    obtain ⟨q, rfl⟩ : ∃ q, p = 3 + q := ⟨p - 3, by omega⟩
    rw [Int.pow_add]
    have : (0 : Int) < 10 ^ q := Int.pow_pos (by decide)
    have : (10 : Int) ^ 3 = 1000 := by decide
    omega
  have hm : (0 : Rat) < M := by exact_mod_cast hM0
  have hP := c2pos R
  have hPm := Rat.mul_pos hP hm
  have hvy := vr_eq (R := R) (y := y) hM0
  generalize hv : vr M R y = v at *
  have hcq : 256 * (y : Rat) < M * 2 ^ R ∧ -(M * 2 ^ R) < 256 * (y : Rat) := by
    have c1 : 256 * y < M * 2 ^ R := by omega
    have c2 : -(M * 2 ^ R) < 256 * y := by omega
    have d1 := Rat.intCast_lt_intCast.mpr c1
    have d2 := Rat.intCast_lt_intCast.mpr c2
    have e1 : ((256 * y : Int) : Rat) = 256 * (y : Rat) := by rw [Rat.intCast_mul]; rfl
    have e2 : ((M * 2 ^ R : Int) : Rat) = M * 2 ^ R := by rw [Rat.intCast_mul, cast_two_pow]
    have e3 : ((-(M * 2 ^ R) : Int) : Rat) = -(M * 2 ^ R) := by rw [Rat.intCast_neg, e2]
    rw [e1, e2] at d1
    rw [e1, e3] at d2
    exact ⟨d1, d2⟩
  have hv2 : v ≤ 1 / 256 := by
    rcases rlt_or_le (1 / 256) v with g | g
    · have := Rat.mul_lt_mul_of_pos_right g hPm
      grind
    · exact g
  have hv1 : -(1 / 256) ≤ v := by
    rcases rlt_or_le v (-(1 / 256)) with g | g
    · have := Rat.mul_lt_mul_of_pos_right g hPm
      grind
    · exact g
  have hys : -κ ≤ (divN y (2 ^ R) : Rat) - v * M ∧ (divN y (2 ^ R) : Rat) - v * M ≤ κ := by
    have e : v * M = (y : Rat) / 2 ^ R := by rw [← hvy]; have : (2 : Rat) ^ R ≠ 0 := by grind
                                             grind
    rw [e]
    rcases hκ with hk | ⟨h0, hk⟩
    · have := divN_rat y (b := 2 ^ R) (Int.pow_pos (by decide))
      rw [cast_two_pow] at this
      rw [hk]
      constructor <;> grind
    · subst h0 hk
      rw [show (2 : Int) ^ 0 = 1 from rfl, divN_one, Rat.pow_zero]
      constructor <;> grind
  have hκ0 : 0 ≤ κ ∧ κ ≤ 1 / 2 := by rcases hκ with h | ⟨_, h⟩ <;> rw [h] <;> constructor <;> grind
  have te := tail_err (ys := divN y (2 ^ R)) (R := R) hMk (tays_two hp) hv1 hv2 hvy hκ0.1 hκ0.2 hys.1 hys.2 hY1 hY2
  have eT : ilTail p M R y = divN (horn M (divN y (2 ^ R)) (divN M (tays p)) (downKs ((tays p : Int) - 1) (tays p - 1)) * y) M := rfl
  rw [← eT] at te
  -- the series
  have ser : ∃ u : Rat, 0 ≤ u ∧ u ≤ 1 / 256 ∧ u * (2 ^ R * M) ≤ Y ∧ Lg (lgS v (tays p) - 2 * u ^ (tays p + 1) / (tays p + 1)) (1 + v) ∧ Ug (lgS v (tays p) + 2 * u ^ (tays p + 1) / (tays p + 1)) (1 + v) := by
    rcases rlt_or_le v 0 with g | g
    · have a := tay_lo (s := -1) (u := -v) (Or.inr rfl) (by grind) (by grind) (tays p)
      have b := tay_hi (s := -1) (u := -v) (Or.inr rfl) (by grind) (by grind) (tays p)
      rw [show (-1 : Rat) * -v = v by grind] at a b
      exact ⟨-v, by grind, by grind, by grind, a, b⟩
    · have a := tay_lo (s := 1) (u := v) (Or.inl rfl) g (by grind) (tays p)
      have b := tay_hi (s := 1) (u := v) (Or.inl rfl) g (by grind) (tays p)
      rw [show (1 : Rat) * v = v by grind] at a b
      exact ⟨v, by grind, by grind, by grind, a, b⟩
  obtain ⟨u, u0, u1, u2, uL, uU⟩ := ser
  have tr := trunc_err (R := R) hp hM hY1 hY2 u0 u2 u1
  have kL := h.lo (r := lgS v (tays p) - 2 * u ^ (tays p + 1) / (tays p + 1)) (by rw [hv]; exact uL)
  have kU := h.hi (r := lgS v (tays p) + 2 * u ^ (tays p + 1) / (tays p + 1)) (by rw [hv]; exact uU)
  generalize (ilTail p M R y : Rat) = D at *
  generalize 2 * u ^ (tays p + 1) / ((tays p : Rat) + 1) = t at *
  generalize lgS v (tays p) = S at *
  generalize hZ : Y / (M : Rat) = Z at *
  constructor
  · exact kL.mono (rdiv_le hm (fin_lo te.2 tr)) Rat.le_refl
  · exact kU.mono (le_rdiv hm (fin_hi te.1 tr)) Rat.le_refl
end Mine

end
section
namespace Mine
theorem rinv_pow {t : Rat} (ht : 0 < t) : ∀ n : Nat, (t⁻¹) ^ n = (t ^ n)⁻¹
  | 0 => by rw [Rat.pow_zero, Rat.pow_zero]; grind
  | n + 1 => by
    rw [Rat.pow_succ, Rat.pow_succ, rinv_pow ht n]
    have := rpow_pos ht n
    grind
/-- the size of y below one -/
theorem size_N {x M y : Int} {R : Nat} {A H : Rat} (hM : 0 < M) (hx : 0 < x) (h : IlInv x M R y A) (hH : Ug H ((M : Rat) / x)) : -(y : Rat) ≤ (H + A) * M := by
  obtain ⟨h0, hL, hU⟩ := h
  have hm : (0 : Rat) < M := by exact_mod_cast hM
  have hxq : (0 : Rat) < x := by exact_mod_cast hx
  have e := vr_eq (R := R) (y := y) hM
  have p := rpow_pos h0 (2 ^ R)
  have hi : 0 < (1 + vr M R y)⁻¹ := Rat.inv_pos.mpr h0
  have b := Lg.basic (t := 1 + vr M R y) (q := (1 + vr M R y)⁻¹) h0 (by
    have : (1 + vr M R y)⁻¹ * (1 + vr M R y) = 1 := by grind
    grind)
  have bp := Lg.pow b (2 ^ R)
  have u := Ug.add (rdiv_pos hm hxq) hU hH
  have eq : Qr x M R y * ((M : Rat) / x) = (1 + vr M R y)⁻¹ ^ (2 ^ R : Nat) := by
    unfold Qr
    rw [rinv_pow h0]
    generalize (1 + vr M R y) ^ (2 ^ R : Nat) = X at *
    have : (M : Rat) ≠ 0 := by grind
    have : (x : Rat) ≠ 0 := by grind
    have : X ≠ 0 := by grind
    grind
  rw [eq] at u
  have k := Lg.le bp u
  have cst : (((2 ^ R : Nat)) : Rat) = (2 : Rat) ^ R := by push_cast; rfl
  rw [cst] at k
  have k2 := Rat.mul_le_mul_of_nonneg_right k (Rat.le_of_lt hm)
  grind
theorem sq_le_M {M r s : Int} (hM : 0 < M) (hr : r ≤ 0) (hs : IsSq (M * (M + r)) s) : s ≤ M := by
  rcases Int.lt_or_le M s with h | h
  · exfalso
    have h1 : (M + 1) * M ≤ s * (s - 1) := Int.mul_le_mul (by omega) (by omega) (by omega) (by omega)
    have h2 : M * r ≤ 0 := Int.mul_nonpos_of_nonneg_of_nonpos (by omega) hr
    have h3 := hs.2.1
    have e1 : M * (M + r) = M * M + M * r := by grind
    have e2 : s * (s - 1) = s * s - s := by grind
    have e3 : (M + 1) * M = M * M + M := by grind
    omega
  · exact h
theorem sq_ge_N {M r s : Int} (hM : 1000 ≤ M) (hr : -(3 * r) ≤ M + 2) (hs : IsSq (M * (M + r)) s) : 4 * M ≤ 5 * s := by
  rcases Int.lt_or_le (5 * s) (4 * M) with h | h
  · exfalso
    have h3 := hs.2.2
    have h0 := hs.1
    -- 75 (s^2 + s) ≥ 75 M^2 + 75 M r ≥ 75 M^2 - 25 M (M + 2) = 50 M^2 - 50 M
    have h1 : M * (-(3 * r)) ≤ M * (M + 2) := Int.mul_le_mul_of_nonneg_left hr (by omega)
    have h2 : (5 * s) * (5 * s) ≤ (4 * M) * (4 * M) := Int.mul_le_mul (by omega) (by omega) (by omega) (by omega)
    have h4 : 1000 * M ≤ M * M := Int.mul_le_mul_of_nonneg_right hM (by omega)
    have e1 : M * (M + r) = M * M + M * r := by grind
    have e2 : M * (-(3 * r)) = -(3 * (M * r)) := by grind
    have e3 : (5 * s) * (5 * s) = 25 * (s * s) := by grind
    have e4 : (4 * M) * (4 * M) = 16 * (M * M) := by grind
    have e5 : M * (M + 2) = M * M + 2 * M := by grind
    omega
  · exact h
/-- one reduction below one: the error and the size -/
theorem stepN {x M y s : Int} {R : Nat} {A H c : Rat} (hM : 1000 ≤ M) (hx : 0 < x) (h : IlInv x M R y A) (hy : y ≤ 0) (hq : -(3 * y) ≤ M * 2 ^ R) (hyc : -(y : Rat) ≤ c * M)
    (hs : IsSq (M * (M + divN y (2 ^ R))) s) (hH : Ug H ((M : Rat) / x)) (hA : A * M ≤ 13 / 2) (hc : H * M + 8 ≤ c * M) (hc2 : c ≤ 21 / 50) :
    divN (M * y * 2) (M + s) ≤ 0 ∧ -((divN (M * y * 2) (M + s) : Int) : Rat) ≤ c * M ∧
    IlInv x M (R + 1) (divN (M * y * 2) (M + s)) (A + (1 / 2 + 3 / 8 * (-(vr M R y)) + 3 / 8 * c + 9 / 16 * (c * (-(vr M R y))) + 3 / M) / M) := by
  have hM0 : 0 < M := by omega
  have hm := cast_k hM
  have hm0 : (0 : Rat) < M := by grind
  have hPi : (0 : Int) < 2 ^ R := Int.pow_pos (by decide)
  have hr0 : divN y (2 ^ R) ≤ 0 := divN_le hPi (by omega)
  have hr3 : -(3 * divN y (2 ^ R)) ≤ M + 2 := by
    have b := (divN_bounds y hPi).1
    generalize divN y (2 ^ R) = d at *
    generalize (2 : Int) ^ R = u at *
    -- 2 d u ≥ 2 y - u ≥ -(2/3) M u - u
    rcases Int.lt_or_le (M + 2) (-(3 * d)) with g | g
    · exfalso
      have g2 : (M + 3) * u ≤ -(3 * d) * u := Int.mul_le_mul_of_nonneg_right (by omega) (by omega)
      have e1 : (M + 3) * u = M * u + 3 * u := by grind
      have e2 : -(3 * d) * u = -(3 * (d * u)) := by grind
      omega
    · exact g
  have hsM := sq_le_M hM0 hr0 hs
  have hs4 := sq_ge_N hM hr3 hs
  have hs0 := hs.1
  have y'0 : divN (M * y * 2) (M + s) ≤ 0 := divN_le (by omega) (by
    have := Int.mul_nonpos_of_nonneg_of_nonpos (show 0 ≤ M by omega) hy
    omega)
  have d1 := divN_rat (M * y * 2) (b := M + s) (by omega)
  have eM : (((M * y * 2 : Int) : Rat)) = M * y * 2 := by push_cast; rfl
  have eS : (((M + s : Int) : Rat)) = M + s := by push_cast; rfl
  rw [eM, eS] at d1
  have sq1 : (s : Rat) ≤ M := by exact_mod_cast hsM
  have sq2 : (4 : Rat) * M ≤ 5 * s := by
    have := Rat.intCast_le_intCast.mpr hs4
    rw [Rat.intCast_mul, Rat.intCast_mul] at this
    exact this
  have y0q : (y : Rat) ≤ 0 := by exact_mod_cast hy
  have yq0 : ((divN (M * y * 2) (M + s) : Int) : Rat) ≤ 0 := by exact_mod_cast y'0
  have hs0q : (0 : Rat) < s := by exact_mod_cast hs0
  have hθ : (s : Rat) / M + 1 / 2 ≤ 3 / 4 * (1 + (s : Rat) / M) := by
    have : (s : Rat) / M ≤ 1 := rdiv_le hm0 (by grind)
    grind
  -- v
  have ev := vr_eq (R := R) (y := y) hM0
  have hP := c2pos R
  have hPm : 0 < (2 : Rat) ^ R * M := Rat.mul_pos hP hm0
  have hqq : -(3 * (y : Rat)) ≤ M * 2 ^ R := by
    have := Rat.intCast_le_intCast.mpr hq
    rw [Rat.intCast_neg, Rat.intCast_mul, Rat.intCast_mul, cast_two_pow] at this
    exact this
  have hv1 : -(1 / 3) ≤ vr M R y := by
    rcases rlt_or_le (vr M R y) (-(1 / 3)) with g | g
    · have := Rat.mul_lt_mul_of_pos_right g hPm
      grind
    · exact g
  have hv2 : vr M R y ≤ 0 := by
    rcases rlt_or_le 0 (vr M R y) with g | g
    · have := Rat.mul_pos g hPm
      grind
    · exact g
  have ev' := vr_eq (R := R + 1) (y := divN (M * y * 2) (M + s)) hM0
  rw [Rat.pow_succ] at ev'
  -- y' ≥ -M/2
  have low : -((M : Rat) / 2) ≤ ((divN (M * y * 2) (M + s) : Int) : Rat) := by
    have k : -(47 / 100 * (M : Rat)) ≤ (M : Rat) * y * 2 / (M + s) := by
      refine le_rdiv (by grind) ?_
      have k1 := Rat.mul_nonneg (show (0 : Rat) ≤ 5 * s - 4 * M by grind) (show (0 : Rat) ≤ M by grind)
      have k2 := Rat.mul_nonneg (show (0 : Rat) ≤ c * M + y by grind) (show (0 : Rat) ≤ M by grind)
      have k3 := Rat.mul_nonneg (show (0 : Rat) ≤ 21 / 50 - c by grind) (show (0 : Rat) ≤ M * M from rsq_nonneg _)
      have k4 := rsq_nonneg (M : Rat)
      grind
    grind
  have hv1' : -(1 / 4) ≤ vr M (R + 1) (divN (M * y * 2) (M + s)) := by
    rcases rlt_or_le (vr M (R + 1) (divN (M * y * 2) (M + s))) (-(1 / 4)) with g | g
    · have g2 := Rat.mul_lt_mul_of_pos_right g (show (0 : Rat) < 2 ^ R * 2 * M by grind)
      have hP1 : (1 : Rat) ≤ 2 ^ R := by
        have : ∀ R : Nat, (1 : Rat) ≤ 2 ^ R := by
          intro R
          induction R with
          | zero => rw [Rat.pow_zero]; grind
          | succ R ih => rw [Rat.pow_succ]; grind
        exact this R
      have g3 := Rat.mul_nonneg (show (0 : Rat) ≤ 2 ^ R - 1 by grind) (show (0 : Rat) ≤ M by grind)
      grind
    · exact g
  have hv2' : vr M (R + 1) (divN (M * y * 2) (M + s)) ≤ 0 := by
    rcases rlt_or_le 0 (vr M (R + 1) (divN (M * y * 2) (M + s))) with g | g
    · have := Rat.mul_pos g (show (0 : Rat) < 2 ^ R * 2 * M by grind)
      grind
    · exact g
  have sqv' : (9 / 16 : Rat) ≤ (1 + vr M (R + 1) (divN (M * y * 2) (M + s))) * (1 + vr M (R + 1) (divN (M * y * 2) (M + s))) := by
    have := Rat.mul_nonneg (show (0 : Rat) ≤ vr M (R + 1) (divN (M * y * 2) (M + s)) + 1 / 4 by grind) (show (0 : Rat) ≤ vr M (R + 1) (divN (M * y * 2) (M + s)) + 7 / 4 by grind)
    grind
  -- first, roughly
  have g1 := step_gen (θ := 3 / 4) (κ := 1 / 2) (Y := M / 2) (l := 1 / 2) hM0 h hs (Or.inl rfl) hθ low (by grind) (by grind) (by grind) (by grind) (by grind)
  have z1 := size_N hM0 hx g1 hH
  have mi : (1 : Rat) / M ≤ 1 / 1000 := rdiv_le hm0 (by grind)
  have mi0 : 0 < (1 : Rat) / M := rdiv_pos (by grind) hm0
  have mim : (1 : Rat) / M * M = 1 := fld3 hm0
  have yc : -((divN (M * y * 2) (M + s) : Int) : Rat) ≤ c * M := by
    have e1 : (3 / 4 * ((M : Rat) / 2 / (2 * M) + 1 / (4 * M)) + (1 + vr M (R + 1) (divN (M * y * 2) (M + s))) / 2 + 1 / (16 * M)) / (1 / 2 * M) * M ≤ 3 / 2 := by
      have e2 : (3 / 4 * ((M : Rat) / 2 / (2 * M) + 1 / (4 * M)) + (1 + vr M (R + 1) (divN (M * y * 2) (M + s))) / 2 + 1 / (16 * M)) / (1 / 2 * M) * M = 3 / 8 + 3 / 8 * (1 / M) + (1 + vr M (R + 1) (divN (M * y * 2) (M + s))) + 1 / 8 * (1 / M) := by
        generalize vr M (R + 1) (divN (M * y * 2) (M + s)) = V
        have : (M : Rat) ≠ 0 := by grind
        grind
      rw [e2]; grind
    have e3 : (H + (A + (3 / 4 * ((M : Rat) / 2 / (2 * M) + 1 / (4 * M)) + (1 + vr M (R + 1) (divN (M * y * 2) (M + s))) / 2 + 1 / (16 * M)) / (1 / 2 * M))) * M = H * M + A * M + (3 / 4 * ((M : Rat) / 2 / (2 * M) + 1 / (4 * M)) + (1 + vr M (R + 1) (divN (M * y * 2) (M + s))) / 2 + 1 / (16 * M)) / (1 / 2 * M) * M := by grind
    rw [e3] at z1
    grind
  refine ⟨y'0, yc, ?_⟩
  -- then sharply
  have nb := step_N (θ := 3 / 4) (κ := 1 / 2) (Y := c * M) hM0 hs (Or.inl rfl) hθ (by grind) (by grind) (by grind)
  have eY : c * M / (2 * (M : Rat)) = c / 2 := by have : (M : Rat) ≠ 0 := by grind
                                                  grind
  have e4 : 1 / (4 * (M : Rat)) = 1 / 4 * (1 / M) := by grind
  have e16 : 1 / (16 * (M : Rat)) = 1 / 16 * (1 / M) := by grind
  have e3M : 3 / (M : Rat) = 3 * (1 / M) := by grind
  rw [eY, e4, e16] at nb
  have hP1 : (1 : Rat) ≤ 2 ^ R := by
    have : ∀ R : Nat, (1 : Rat) ≤ 2 ^ R := by
      intro R
      induction R with
      | zero => rw [Rat.pow_zero]; grind
      | succ R ih => rw [Rat.pow_succ]; grind
    exact this R
  -- |N| ≤ 1 / M
  generalize hNN : (1 + vr M R y) - (1 + vr M (R + 1) (divN (M * y * 2) (M + s))) * (1 + vr M (R + 1) (divN (M * y * 2) (M + s))) = N at *
  have N1 : -(1 / (M : Rat)) ≤ N := by
    rcases rlt_or_le N (-(1 / (M : Rat))) with g | g
    · have g2 := Rat.mul_lt_mul_of_pos_right g hPm
      have g3 := Rat.mul_nonneg (show (0 : Rat) ≤ 2 ^ R - 1 by grind) (show (0 : Rat) ≤ 1 / M * M by grind)
      grind
    · exact g
  have N2 : N ≤ 1 / (M : Rat) := by
    rcases rlt_or_le (1 / (M : Rat)) N with g | g
    · have g2 := Rat.mul_lt_mul_of_pos_right g hPm
      have g3 := Rat.mul_nonneg (show (0 : Rat) ≤ 2 ^ R - 1 by grind) (show (0 : Rat) ≤ 1 / M * M by grind)
      grind
    · exact g
  have g2 := step_gen (θ := 3 / 4) (κ := 1 / 2) (Y := c * M) (l := 1 + vr M R y - 1 / M) hM0 h hs (Or.inl rfl) hθ (by grind) (by grind) (by grind) (by grind) (by grind) (by grind)
  -- 1 + v' ≤ 1 + v/2 + (3/5)/M
  generalize vr M (R + 1) (divN (M * y * 2) (M + s)) = v' at *
  generalize vr M R y = v at *
  have vh : v' ≤ v / 2 + 3 / 5 * (1 / M) := by
    rcases rlt_or_le (v / 2 + 3 / 5 * (1 / (M : Rat))) v' with g | g
    · exfalso
      have k1 := Rat.mul_nonneg (show (0 : Rat) ≤ v' - (v / 2 + 3 / 5 * (1 / M)) by grind) (show (0 : Rat) ≤ v' + (v / 2 + 3 / 5 * (1 / M)) + 2 by grind)
      have k2 := rsq_nonneg (v / 2 + 3 / 5 * (1 / (M : Rat)))
      -- (1+v')^2 ≥ (1 + v/2 + t)^2 ≥ 1 + v + 2 t (1 + v/2)
      have k3 := rsq_nonneg v
      have k4 := Rat.mul_nonneg (Rat.le_of_lt mi0) (show (0 : Rat) ≤ 1 / 3 + v by grind)
      have k5 := rsq_nonneg (1 / (M : Rat))
      generalize (1 : Rat) / M = t at *
      grind
    · exact g
  obtain ⟨i0, iL, iU⟩ := g2
  have hle : (3 / 4 * (c * M / (2 * M) + 1 / (4 * M)) + (1 + v') / 2 + 1 / (16 * (M : Rat))) / ((1 + v - 1 / M) * M) ≤ (1 / 2 + 3 / 8 * -v + 3 / 8 * c + 9 / 16 * (c * -v) + 3 / M) / M := by
    rw [eY, e4, e16, e3M]
    refine rdiv_le (Rat.mul_pos (by grind) hm0) ?_
    have e9 : (1 / 2 + 3 / 8 * -v + 3 / 8 * c + 9 / 16 * (c * -v) + 3 * (1 / M)) / M * ((1 + v - 1 / M) * M) = (1 / 2 + 3 / 8 * -v + 3 / 8 * c + 9 / 16 * (c * -v) + 3 * (1 / (M : Rat))) * (1 + v - 1 / M) := by
      have : (M : Rat) ≠ 0 := by grind
      grind
    rw [e9]
    generalize (1 : Rat) / M = t at *
    have c0 : 0 ≤ c := by
      rcases rlt_or_le c 0 with g | g
      · have := Rat.mul_lt_mul_of_pos_right g hm0
        grind
      · exact g
    have k1 := Rat.mul_nonneg (show (0 : Rat) ≤ -v by grind) (show (0 : Rat) ≤ 1 / 3 + v by grind)
    have k2 := Rat.mul_nonneg c0 k1
    have k3 := Rat.mul_nonneg (Rat.le_of_lt mi0) (show (0 : Rat) ≤ 1 / 3 + v by grind)
    have k4 := Rat.mul_nonneg (Rat.le_of_lt mi0) (show (0 : Rat) ≤ 21 / 50 - c by grind)
    have k5 := Rat.mul_nonneg (Rat.mul_nonneg (Rat.le_of_lt mi0) c0) (show (0 : Rat) ≤ 1 / 3 + v by grind)
    have k6 := Rat.mul_nonneg (Rat.le_of_lt mi0) (show (0 : Rat) ≤ 1 / 1000 - t by grind)
    grind
  exact ⟨i0, iL.mono (by grind) Rat.le_refl, iU.mono (by grind) Rat.le_refl⟩
end Mine

end
section
namespace Mine
theorem sq_ge_M {M r s : Int} (hM : 0 < M) (hr : 0 ≤ r) (hs : IsSq (M * (M + r)) s) : M ≤ s := by
  rcases Int.lt_or_le s M with h | h
  · exfalso
    have h0 := hs.1
    have h1 : s * (s + 1) ≤ (M - 1) * M := Int.mul_le_mul (by omega) (by omega) (by omega) (by omega)
    have h2 : 0 ≤ M * r := Int.mul_nonneg (by omega) hr
    have h3 := hs.2.2
    have e1 : M * (M + r) = M * M + M * r := by grind
    have e2 : s * (s + 1) = s * s + s := by grind
    have e3 : (M - 1) * M = M * M - M := by grind
    omega
  · exact h
theorem sq_le_P {M r s : Int} (hM : 1000 ≤ M) (hr : 3 * r ≤ M) (hs : IsSq (M * (M + r)) s) : 6 * s ≤ 7 * M := by
  rcases Int.lt_or_le (7 * M) (6 * s) with h | h
  · exfalso
    have h0 := hs.2.1
    have h1 : (7 * M + 1) * (7 * M - 5) ≤ (6 * s) * (6 * s - 6) := Int.mul_le_mul (by omega) (by omega) (by omega) (by omega)
    have h2 : M * (3 * r) ≤ M * M := Int.mul_le_mul_of_nonneg_left hr (by omega)
    have h4 : 1000 * M ≤ M * M := Int.mul_le_mul_of_nonneg_right hM (by omega)
    have e1 : M * (M + r) = M * M + M * r := by grind
    have e2 : (6 * s) * (6 * s - 6) = 36 * (s * s) - 36 * s := by grind
    have e3 : (7 * M + 1) * (7 * M - 5) = 49 * (M * M) - 28 * M - 5 := by grind
    have e4 : M * (3 * r) = 3 * (M * r) := by grind
    omega
  · exact h
theorem two_pow_ge (R : Nat) : (1 : Rat) ≤ 2 ^ R := by
  induction R with
  | zero => rw [Rat.pow_zero]; grind
  | succ R ih => rw [Rat.pow_succ]; grind
/-- one reduction above one -/
theorem stepP {x M y s Y : Int} {R : Nat} {A : Rat} (hM : 1000 ≤ M) (h : IlInv x M R y A) (hy : 0 ≤ y) (hyY : y ≤ Y) (hY : 3 * Y ≤ M)
    (hs : IsSq (M * (M + divN y (2 ^ R))) s) :
    0 ≤ divN (M * y * 2) (M + s) ∧ divN (M * y * 2) (M + s) ≤ Y ∧
    IlInv x M (R + 1) (divN (M * y * 2) (M + s)) (A + (1 / 2 + 5 / 13 * ((Y : Rat) / M) + 1 / 2 * vr M (R + 1) (divN (M * y * 2) (M + s)) + 1 / M) / M) := by
  have hM0 : 0 < M := by omega
  have hm := cast_k hM
  have hm0 : (0 : Rat) < M := by grind
  have hPi : (0 : Int) < 2 ^ R := Int.pow_pos (by decide)
  have hr0 : 0 ≤ divN y (2 ^ R) := le_divN hPi (by omega)
  have hr1 : divN y (2 ^ R) ≤ y := divN_le hPi (by
    have := Int.mul_le_mul_of_nonneg_left (show (1 : Int) ≤ 2 ^ R by omega) hy
    omega)
  have hsM := sq_ge_M hM0 hr0 hs
  have hs7 := sq_le_P hM (by omega) hs
  have y'0 : 0 ≤ divN (M * y * 2) (M + s) := le_divN (by omega) (by
    have := Int.mul_nonneg (show 0 ≤ M by omega) hy
    omega)
  have y'1 : divN (M * y * 2) (M + s) ≤ y := divN_le (by omega) (by
    have h1 := Int.mul_le_mul_of_nonneg_left hsM hy
    have e1 : y * (M + s) = y * M + y * s := by grind
    have e2 : M * y * 2 = y * M + y * M := by grind
    omega)
  refine ⟨y'0, by omega, ?_⟩
  have sq1 : (6 : Rat) * s ≤ 7 * M := by
    have := Rat.intCast_le_intCast.mpr hs7
    rw [Rat.intCast_mul, Rat.intCast_mul] at this
    exact this
  have hθ : (s : Rat) / M + 1 / 2 ≤ 10 / 13 * (1 + (s : Rat) / M) := by
    have : (s : Rat) / M ≤ 7 / 6 := rdiv_le hm0 (by grind)
    grind
  have yq0 : (0 : Rat) ≤ ((divN (M * y * 2) (M + s) : Int) : Rat) := by exact_mod_cast y'0
  have yq1 : ((divN (M * y * 2) (M + s) : Int) : Rat) ≤ Y := by exact_mod_cast (show divN (M * y * 2) (M + s) ≤ Y by omega)
  have vpos : ∀ (R : Nat) (z : Int), 0 ≤ z → 0 ≤ vr M R z := by
    intro R z hz
    have hzq : (0 : Rat) ≤ z := by exact_mod_cast hz
    unfold vr
    exact le_rdiv (Rat.mul_pos (c2pos R) hm0) (by grind)
  have v0 := vpos R y hy
  have v0' := vpos (R + 1) _ y'0
  have g := step_gen (θ := 10 / 13) (κ := 1 / 2) (Y := (Y : Rat)) (l := 1) hM0 h hs (Or.inl rfl) hθ (by grind) yq1 (by grind) (by grind) (by grind) (by
    have := rsq_nonneg (vr M (R + 1) (divN (M * y * 2) (M + s)))
    grind)
  have mi0 : 0 < (1 : Rat) / M := rdiv_pos (by grind) hm0
  obtain ⟨i0, iL, iU⟩ := g
  have hle : (10 / 13 * ((Y : Rat) / (2 * M) + 1 / (4 * M)) + (1 + vr M (R + 1) (divN (M * y * 2) (M + s))) / 2 + 1 / (16 * (M : Rat))) / (1 * M) ≤ (1 / 2 + 5 / 13 * ((Y : Rat) / M) + 1 / 2 * vr M (R + 1) (divN (M * y * 2) (M + s)) + 1 / M) / M := by
    rw [Rat.one_mul]
    refine rdiv_le hm0 ?_
    rw [fld3 hm0]
    have e1 : (Y : Rat) / (2 * M) = 1 / 2 * ((Y : Rat) / M) := by grind
    have e4 : 1 / (4 * (M : Rat)) = 1 / 4 * (1 / M) := by grind
    have e16 : 1 / (16 * (M : Rat)) = 1 / 16 * (1 / M) := by grind
    rw [e1, e4, e16]
    generalize (1 : Rat) / M = t at *
    generalize (Y : Rat) / M = u at *
    grind
  exact ⟨i0, iL.mono (by grind) Rat.le_refl, iU.mono (by grind) Rat.le_refl⟩
/-- the chain above one -/
theorem chainP {x M Y : Int} (hM : 1000 ≤ M) (hx : x = M + Y) (hY0 : 0 ≤ Y) (hY : 3 * Y ≤ M) {R : Nat} {y : Int} (h : RedTo x M R y) :
    0 ≤ y ∧ y ≤ Y ∧ ∃ A, IlInv x M R y A ∧ A * M ≤ R * (1 / 2 + 5 / 13 * ((Y : Rat) / M) + 1 / M) + 1 / 2 * ((Y : Rat) / M) * (1 - 1 / 2 ^ R) := by
  have hm := cast_k hM
  have hm0 : (0 : Rat) < M := by grind
  induction h with
  | zero =>
    refine ⟨by omega, by omega, 0, IlInv.zero (by omega) (by omega), ?_⟩
    rw [Rat.pow_zero]
    push_cast
    grind
  | @succ R y s hr hc hs ih =>
    obtain ⟨y0, y1, A, iA, bA⟩ := ih
    obtain ⟨a, b, c⟩ := stepP hM iA y0 y1 hY hs
    refine ⟨a, b, _, c, ?_⟩
    have ev := vr_eq (R := R + 1) (y := divN (M * y * 2) (M + s)) (show 0 < M by omega)
    have yq1 : ((divN (M * y * 2) (M + s) : Int) : Rat) ≤ Y := by exact_mod_cast b
    have hP := c2pos (R + 1)
    have vle : vr M (R + 1) (divN (M * y * 2) (M + s)) ≤ (Y : Rat) / M * (1 / 2 ^ (R + 1)) := by
      have : (Y : Rat) / M * (1 / 2 ^ (R + 1)) = (Y : Rat) / (2 ^ (R + 1) * M) := by
        have : (M : Rat) ≠ 0 := by grind
        have : (2 : Rat) ^ (R + 1) ≠ 0 := by grind
        grind
      rw [this]
      refine le_rdiv (Rat.mul_pos hP hm0) ?_
      rw [ev]; exact yq1
    have e2 : 1 / (2 : Rat) ^ R = 2 * (1 / 2 ^ (R + 1)) := by
      rw [Rat.pow_succ]
      have := c2pos R
      have : (2 : Rat) ^ R ≠ 0 := by grind
      grind
    rw [e2] at bA
    have e3 : (A + (1 / 2 + 5 / 13 * ((Y : Rat) / M) + 1 / 2 * vr M (R + 1) (divN (M * y * 2) (M + s)) + 1 / M) / M) * M = A * M + (1 / 2 + 5 / 13 * ((Y : Rat) / M) + 1 / 2 * vr M (R + 1) (divN (M * y * 2) (M + s)) + 1 / M) := by
      have : (M : Rat) ≠ 0 := by grind
      grind
    rw [e3]
    push_cast
    generalize 1 / (2 : Rat) ^ (R + 1) = t at *
    generalize vr M (R + 1) (divN (M * y * 2) (M + s)) = v' at *
    generalize (Y : Rat) / M = u at *
    generalize (1 : Rat) / M = i at *
    grind
end Mine

end
section
namespace Mine
theorem pow_le_six {M R2 : Int} {R : Nat} (hM : 0 < M) (h : M * 2 ^ R ≤ R2) (hR : R2 < 128 * M) : R ≤ 6 := by
  rcases Nat.lt_or_ge 6 R with g | g
  · exfalso
    obtain ⟨k, rfl⟩ : ∃ k, R = 7 + k := ⟨R - 7, by omega⟩
    rw [Int.pow_add] at h
    have : (0 : Int) < 2 ^ k := Int.pow_pos (by decide)
    have h1 : M * 128 ≤ M * (2 ^ 7 * 2 ^ k) := Int.mul_le_mul_of_nonneg_left (by
      have : (2 : Int) ^ 7 = 128 := by decide
      omega) (by omega)
    omega
  · exact g
/-- the bound of the error below one -/
def errN (c m : Rat) (R : Nat) : Rat := R * (1 / 2 + 3 / 8 * c + 3 / m) + (3 / 8 + 9 / 16 * c) * (2 * c * (1 - 1 / 2 ^ R))
theorem errN_le {c m : Rat} (hm : 1000 ≤ m) (h0 : 0 ≤ c) (hc2 : c ≤ 21 / 50) {R : Nat} (hR : R ≤ 7) : errN c m R ≤ 13 / 2 := by
  unfold errN
  have hR1 : (R : Rat) ≤ 7 := by
    have : ((R : Nat) : Rat) ≤ ((7 : Nat) : Rat) := by exact_mod_cast hR
    exact this
  have hR0 : (0 : Rat) ≤ R := Rat.natCast_nonneg
  have hp := c2pos R
  have hi : 0 < 1 / (2 : Rat) ^ R := rdiv_pos (by grind) hp
  have mi : 3 / m ≤ 3 / 1000 := rdiv_le (by grind) (by grind)
  have mi0 : 0 ≤ 3 / m := le_rdiv (by grind) (by grind)
  have k1 := Rat.mul_nonneg (show (0 : Rat) ≤ 7 - R by grind) (show (0 : Rat) ≤ 1 / 2 + 3 / 8 * c + 3 / m by grind)
  have k2 := Rat.mul_nonneg (Rat.mul_nonneg h0 (Rat.le_of_lt hi)) (show (0 : Rat) ≤ 3 / 8 + 9 / 16 * c by grind)
  have k3 := Rat.mul_nonneg h0 (show (0 : Rat) ≤ 21 / 50 - c by grind)
  generalize 1 / (2 : Rat) ^ R = t at *
  generalize 3 / m = i at *
  grind
theorem chainN {x M Y : Int} {H c : Rat} (hM : 1000 ≤ M) (hx : x = M - Y) (hY0 : 0 ≤ Y) (hY : 3 * Y ≤ M) (hH : Ug H ((M : Rat) / x)) (hYc : (Y : Rat) ≤ c * M) (hc : H * M + 8 ≤ c * M) (hc2 : c ≤ 21 / 50)
    {R : Nat} {y : Int} (h : RedTo x M R y) :
    R ≤ 7 ∧ y ≤ 0 ∧ -(3 * y) ≤ M * 2 ^ R ∧ -(y : Rat) ≤ c * M ∧ ∃ A, IlInv x M R y A ∧ A * M ≤ errN c M R := by
  have hm := cast_k hM
  have hm0 : (0 : Rat) < M := by grind
  have hc0 : 0 ≤ c := by
    have hYq : (0 : Rat) ≤ Y := by exact_mod_cast hY0
    rcases rlt_or_le c 0 with g | g
    · have := Rat.mul_lt_mul_of_pos_right g hm0
      grind
    · exact g
  induction h with
  | zero =>
    refine ⟨by omega, by omega, by rw [Int.pow_zero]; omega, ?_, 0, IlInv.zero (by omega) (by omega), ?_⟩
    · have : (((x - M : Int)) : Rat) = -(Y : Rat) := by rw [hx, show M - Y - M = -Y by omega, Rat.intCast_neg]
      rw [this]; grind
    · unfold errN
      rw [Rat.pow_zero]
      push_cast
      grind
  | @succ R y s hr hcd hs ih =>
    obtain ⟨r7, y0, y3, yc, A, iA, bA⟩ := ih
    have hA : A * M ≤ 13 / 2 := by have := errN_le hm hc0 hc2 r7; grind
    obtain ⟨a, b, d⟩ := stepN hM (by omega) iA y0 y3 yc hs hH hA hc hc2
    have yI : 256 * (y.natAbs : Int) < 128 * M := by
      have h1 : -(y : Rat) ≤ 21 / 50 * M := by
        have := Rat.mul_nonneg (show (0 : Rat) ≤ 21 / 50 - c by grind) (show (0 : Rat) ≤ M by grind)
        grind
      have h2 : ((-(100 * y) : Int) : Rat) ≤ ((42 * M : Int) : Rat) := by
        rw [Rat.intCast_neg, Rat.intCast_mul, Rat.intCast_mul, show (((100 : Int)) : Rat) = 100 from rfl, show (((42 : Int)) : Rat) = 42 from rfl]
        grind
      have h3 := Rat.intCast_le_intCast.mp h2
      omega
    have r6 := pow_le_six (by omega) hcd yI
    have y'I : -(100 * divN (M * y * 2) (M + s)) ≤ 42 * M := by
      have h1 : -((divN (M * y * 2) (M + s) : Int) : Rat) ≤ 21 / 50 * M := by
        have := Rat.mul_nonneg (show (0 : Rat) ≤ 21 / 50 - c by grind) (show (0 : Rat) ≤ M by grind)
        grind
      have h2 : ((-(100 * divN (M * y * 2) (M + s)) : Int) : Rat) ≤ ((42 * M : Int) : Rat) := by
        rw [Rat.intCast_neg, Rat.intCast_mul, Rat.intCast_mul, show (((100 : Int)) : Rat) = 100 from rfl, show (((42 : Int)) : Rat) = 42 from rfl]
        grind
      exact Rat.intCast_le_intCast.mp h2
    refine ⟨by omega, a, ?_, b, _, d, ?_⟩
    · have : (2 : Int) ≤ 2 ^ (R + 1) := by
        rw [Int.pow_succ]
        have : (0 : Int) < 2 ^ R := Int.pow_pos (by decide)
        omega
      have := Int.mul_le_mul_of_nonneg_left this (show 0 ≤ M by omega)
      omega
    · have ev := vr_eq (R := R) (y := y) (show 0 < M by omega)
      have hP := c2pos R
      have vle : -(vr M R y) ≤ c * (1 / 2 ^ R) := by
        rcases rlt_or_le (c * (1 / 2 ^ R)) (-(vr M R y)) with g | g
        · have g2 := Rat.mul_lt_mul_of_pos_right g (Rat.mul_pos hP hm0)
          have : c * (1 / 2 ^ R) * (2 ^ R * (M : Rat)) = c * M := by
            have : (2 : Rat) ^ R ≠ 0 := by grind
            grind
          grind
        · exact g
      have v0 : 0 ≤ -(vr M R y) := by
        have yq : (y : Rat) ≤ 0 := by exact_mod_cast y0
        rcases rlt_or_le (-(vr M R y)) 0 with g | g
        · have g2 := Rat.mul_lt_mul_of_pos_right g (Rat.mul_pos hP hm0)
          grind
        · exact g
      have e2 : 1 / (2 : Rat) ^ R = 2 * (1 / 2 ^ (R + 1)) := by
        rw [Rat.pow_succ]
        have : (2 : Rat) ^ R ≠ 0 := by grind
        grind
      unfold errN at bA ⊢
      rw [e2] at bA vle
      have e3 : (A + (1 / 2 + 3 / 8 * -vr M R y + 3 / 8 * c + 9 / 16 * (c * -vr M R y) + 3 / M) / M) * M = A * M + (1 / 2 + 3 / 8 * -vr M R y + 3 / 8 * c + 9 / 16 * (c * -vr M R y) + 3 / M) := by
        have : (M : Rat) ≠ 0 := by grind
        grind
      rw [e3]
      push_cast
      have k1 := Rat.mul_nonneg (show (0 : Rat) ≤ 3 / 8 + 9 / 16 * c by grind) (show (0 : Rat) ≤ c * (2 * (1 / 2 ^ (R + 1))) - -(vr M R y) by grind)
      generalize 1 / (2 : Rat) ^ (R + 1) = t at *
      generalize -(vr M R y) = q at *
      generalize 3 / (M : Rat) = i at *
      grind
end Mine

end
section
namespace Mine
/-- the series of _law_log -/
def llF (z : Rat) : Nat → Rat
  | 0 => 0
  | n + 1 => llF z n + 2 * z ^ (2 * n + 1) / (2 * n + 1)
theorem llF_eq (z : Rat) : ∀ n : Nat, lgS z (2 * n) - lgS (-z) (2 * n) = llF z n
  | 0 => by simp only [Nat.mul_zero, lgS, llF]; grind
  | n + 1 => by
    have ih := llF_eq z n
    rw [show 2 * (n + 1) = 2 * n + 1 + 1 by omega]
    simp only [lgS, llF]
    have ev : ∀ m : Nat, (-z) ^ (2 * m) = z ^ (2 * m) := by
      intro m
      induction m with
      | zero => rw [Nat.mul_zero, Rat.pow_zero, Rat.pow_zero]
      | succ m ih => rw [show 2 * (m + 1) = 2 * m + 1 + 1 by omega, Rat.pow_succ, Rat.pow_succ, ih, Rat.pow_succ, Rat.pow_succ]; grind
    have e1 : (-z) ^ (2 * n + 1) = -(z ^ (2 * n + 1)) := by rw [Rat.pow_succ, ev, Rat.pow_succ]; grind
    have e2 : (-z) ^ (2 * n + 1 + 1) = z ^ (2 * n + 1 + 1) := by rw [Rat.pow_succ, e1, Rat.pow_succ]; grind
    have e3 : (- -z) = z := by grind
    rw [e3, e1, e2]
    push_cast
    generalize z ^ (2 * n + 1) = A at *
    generalize z ^ (2 * n + 1 + 1) = B at *
    grind
/-- log ((1 + z) / (1 - z)) -/
theorem at_lo {z : Rat} (h0 : 0 ≤ z) (h1 : 2 * z ≤ 1) (n : Nat) : Lg (llF z n - 4 * z ^ (2 * n + 1) / (2 * n + 1)) ((1 + z) / (1 - z)) := by
  have a := tay_lo (s := 1) (u := z) (Or.inl rfl) h0 h1 (2 * n)
  have b := tay_hi (s := -1) (u := z) (Or.inr rfl) h0 h1 (2 * n)
  rw [show (1 : Rat) * z = z by grind] at a
  rw [show (-1 : Rat) * z = -z by grind, show 1 + -z = 1 - z by grind] at b
  have b' := b.inv (by grind)
  have k := Lg.add a b'
  have e := llF_eq z n
  refine k.mono ?_ ?_
  · rw [← e]; push_cast; grind
  · rw [Rat.div_def]; exact Rat.le_refl
theorem at_hi {z : Rat} (h0 : 0 ≤ z) (h1 : 2 * z ≤ 1) (n : Nat) : Ug (llF z n + 4 * z ^ (2 * n + 1) / (2 * n + 1)) ((1 + z) / (1 - z)) := by
  have a := tay_hi (s := 1) (u := z) (Or.inl rfl) h0 h1 (2 * n)
  have b := tay_lo (s := -1) (u := z) (Or.inr rfl) h0 h1 (2 * n)
  rw [show (1 : Rat) * z = z by grind] at a
  rw [show (-1 : Rat) * z = -z by grind, show 1 + -z = 1 - z by grind] at b
  have b' := b.inv (by grind)
  have hi : 0 < (1 - z)⁻¹ := Rat.inv_pos.mpr (by grind)
  have k := Ug.add hi a b'
  have e := llF_eq z n
  refine k.mono ?_ ?_
  · rw [← e]; push_cast; grind
  · rw [Rat.div_def]; exact Rat.le_refl
/-- floor division in the rationals -/
theorem fl_rat (a : Int) {b : Int} (hb : 0 < b) : ((a / b : Int) : Rat) ≤ (a : Rat) / b ∧ (a : Rat) / b - 1 ≤ ((a / b : Int) : Rat) := by
  have hb' : (0 : Rat) < b := by exact_mod_cast hb
  have e1 := Int.mul_ediv_add_emod a b
  have e2 := Int.emod_nonneg a (b := b) (by omega)
  have e3 := Int.emod_lt_of_pos a hb
  have h1 : a / b * b ≤ a := by rw [Int.mul_comm]; omega
  have h2 : a ≤ a / b * b + b := by rw [Int.mul_comm]; omega
  have g1 : ((a / b : Int) : Rat) * b ≤ a := by exact_mod_cast h1
  have g2 : (a : Rat) ≤ ((a / b : Int) : Rat) * b + b := by exact_mod_cast h2
  constructor
  · exact le_rdiv hb' g1
  · have : (a : Rat) / b ≤ ((a / b : Int) : Rat) + 1 := rdiv_le hb' (by grind)
    grind
section
variable {a b u : Int}
theorem llPw_rat (hb : 0 < b) (hab : b < a) (hu : 0 < u) (h5 : 5 * (a - b) ≤ a + b) : ∀ i : Nat,
    0 ≤ llPw a b u i ∧ (llPw a b u i : Rat) ≤ 2 * u * (((a : Rat) - b) / (a + b)) ^ (2 * i + 1) ∧ 2 * u * (((a : Rat) - b) / (a + b)) ^ (2 * i + 1) - 2 ≤ (llPw a b u i : Rat)
  | 0 => by
    have hs : (0 : Rat) < (a : Rat) + b := by
      have : (0 : Rat) < ((a + b : Int) : Rat) := by exact_mod_cast (show 0 < a + b by omega)
      rwa [Rat.intCast_add] at this
    have f := fl_rat (2 * u * (a - b)) (b := a + b) (by omega)
    have e : (((2 * u * (a - b) : Int)) : Rat) / ((a + b : Int) : Rat) = 2 * u * (((a : Rat) - b) / (a + b)) ^ (2 * 0 + 1) := by
      rw [show 2 * 0 + 1 = 0 + 1 by omega, Rat.pow_succ, Rat.pow_zero]
      rw [Rat.intCast_mul, Rat.intCast_mul, Rat.intCast_sub, Rat.intCast_add, show (((2 : Int)) : Rat) = 2 from rfl]
      grind
    rw [e] at f
    refine ⟨Int.ediv_nonneg (Int.mul_nonneg (by omega) (by omega)) (by omega), f.1, ?_⟩
    have := f.2
    show _ ≤ ((2 * u * (a - b) / (a + b) : Int) : Rat)
    grind
  | i + 1 => by
    obtain ⟨h0, h1, h2⟩ := llPw_rat hb hab hu h5 i
    have hs : (0 : Rat) < (a : Rat) + b := by
      have : (0 : Rat) < ((a + b : Int) : Rat) := by exact_mod_cast (show 0 < a + b by omega)
      rwa [Rat.intCast_add] at this
    have hp : (0 : Int) < (a + b) ^ 2 := Int.pow_pos (by omega)
    have f := fl_rat (llPw a b u i * (a - b) ^ 2) (b := (a + b) ^ 2) hp
    have hd : (0 : Rat) ≤ (a : Rat) - b := by
      have : (0 : Rat) ≤ ((a - b : Int) : Rat) := by exact_mod_cast (show 0 ≤ a - b by omega)
      rwa [Rat.intCast_sub] at this
    have h5q : (5 : Rat) * (a - b) ≤ a + b := by
      have := Rat.intCast_le_intCast.mpr h5
      rw [Rat.intCast_mul, Rat.intCast_sub, Rat.intCast_add] at this
      exact this
    have z5 : ((a : Rat) - b) / (a + b) ≤ 1 / 5 := rdiv_le hs (by grind)
    have z0 : 0 ≤ ((a : Rat) - b) / (a + b) := le_rdiv hs (by grind)
    have e : (((llPw a b u i * (a - b) ^ 2 : Int)) : Rat) / (((a + b) ^ 2 : Int) : Rat) = (llPw a b u i : Rat) * (((a : Rat) - b) / (a + b) * (((a : Rat) - b) / (a + b))) := by
      rw [Rat.intCast_mul, Rat.intCast_pow, Rat.intCast_pow, Rat.intCast_sub, Rat.intCast_add]
      simp only [Rat.pow_succ, Rat.pow_zero]
      have : (a : Rat) + b ≠ 0 := by grind
      grind
    rw [e] at f
    have ep : 2 * u * (((a : Rat) - b) / (a + b)) ^ (2 * (i + 1) + 1) = 2 * u * (((a : Rat) - b) / (a + b)) ^ (2 * i + 1) * (((a : Rat) - b) / (a + b) * (((a : Rat) - b) / (a + b))) := by
      rw [show 2 * (i + 1) + 1 = 2 * i + 1 + 1 + 1 by omega, Rat.pow_succ, Rat.pow_succ]; grind
    rw [ep]
    have h0q : (0 : Rat) ≤ (llPw a b u i : Rat) := by exact_mod_cast h0
    refine ⟨Int.ediv_nonneg (Int.mul_nonneg h0 (Int.le_of_lt (Int.pow_pos (by omega)))) (by omega), ?_, ?_⟩
    · have k := Rat.mul_nonneg (show (0 : Rat) ≤ 2 * u * (((a : Rat) - b) / (a + b)) ^ (2 * i + 1) - (llPw a b u i : Rat) by grind) (Rat.mul_nonneg z0 z0)
      show ((llPw a b u i * (a - b) ^ 2 / (a + b) ^ 2 : Int) : Rat) ≤ _
      have := f.1
      grind
    · have k := Rat.mul_nonneg (show (0 : Rat) ≤ (llPw a b u i : Rat) - (2 * u * (((a : Rat) - b) / (a + b)) ^ (2 * i + 1) - 2) by grind) (Rat.mul_nonneg z0 z0)
      have k2 := Rat.mul_nonneg (show (0 : Rat) ≤ 1 / 5 - ((a : Rat) - b) / (a + b) by grind) (show (0 : Rat) ≤ 1 / 5 + ((a : Rat) - b) / (a + b) by grind)
      show _ ≤ ((llPw a b u i * (a - b) ^ 2 / (a + b) ^ 2 : Int) : Rat)
      have := f.2
      grind
theorem llTot_rat (hb : 0 < b) (hab : b < a) (hu : 0 < u) (h5 : 5 * (a - b) ≤ a + b) : ∀ i : Nat,
    (llTot a b u i : Rat) ≤ u * llF (((a : Rat) - b) / (a + b)) i ∧ u * llF (((a : Rat) - b) / (a + b)) i - 3 * i ≤ (llTot a b u i : Rat)
  | 0 => by
    simp only [llTot, llF]
    have : (((0 : Int)) : Rat) = 0 := rfl
    rw [this]
    push_cast
    constructor <;> grind
  | i + 1 => by
    obtain ⟨t1, t2⟩ := llTot_rat hb hab hu h5 i
    obtain ⟨h0, h1, h2⟩ := llPw_rat hb hab hu h5 i
    have f := fl_rat (llPw a b u i) (b := 2 * i + 1) (by omega)
    have ec : (((2 * (i : Int) + 1 : Int)) : Rat) = 2 * i + 1 := by
      rw [Rat.intCast_add, Rat.intCast_mul, Rat.intCast_natCast]; rfl
    rw [ec] at f
    simp only [llTot, llF]
    rw [Rat.intCast_add]
    have hi : (0 : Rat) ≤ i := Rat.natCast_nonneg
    have hn : (0 : Rat) < 2 * i + 1 := by grind
    generalize (((a : Rat) - b) / (a + b)) ^ (2 * i + 1) = Z at *
    generalize (((llPw a b u i / (2 * (i : Int) + 1) : Int)) : Rat) = q at *
    have e1 : (llPw a b u i : Rat) / (2 * i + 1) ≤ u * (2 * Z / (2 * i + 1)) := rdiv_le hn (by
      have : u * (2 * Z / (2 * (i : Rat) + 1)) * (2 * i + 1) = 2 * u * Z := by grind
      grind)
    have e2 : u * (2 * Z / (2 * i + 1)) - 2 ≤ (llPw a b u i : Rat) / (2 * i + 1) := le_rdiv hn (by
      have : (u * (2 * Z / (2 * (i : Rat) + 1)) - 2) * (2 * i + 1) = 2 * u * Z - 2 * (2 * i + 1) := by grind
      grind)
    push_cast
    constructor <;> grind
end
end Mine

end
section
namespace Mine
theorem ll_log {a b u r : Int} (h : IsLl a b u r) (hb : 0 < b) (hab : b < a) (h5 : 5 * (a - b) ≤ a + b) (hu : 0 < u) (hu2 : u ≤ 10 ^ 45) :
    Lg (((r : Rat) - 300) / u) ((a : Rat) / b) ∧ Ug (((r : Rat) + 300) / u) ((a : Rat) / b) := by
  obtain ⟨i, h1, h2, h3⟩ := h
  have hs : (0 : Rat) < (a : Rat) + b := by
    have : (0 : Rat) < ((a + b : Int) : Rat) := by exact_mod_cast (show 0 < a + b by omega)
    rwa [Rat.intCast_add] at this
  have hd : (0 : Rat) ≤ (a : Rat) - b := by
    have : (0 : Rat) ≤ ((a - b : Int) : Rat) := by exact_mod_cast (show 0 ≤ a - b by omega)
    rwa [Rat.intCast_sub] at this
  have h5q : (5 : Rat) * (a - b) ≤ a + b := by
    have := Rat.intCast_le_intCast.mpr h5
    rw [Rat.intCast_mul, Rat.intCast_sub, Rat.intCast_add] at this
    exact this
  have huq : (0 : Rat) < u := by exact_mod_cast hu
  have hbq : (0 : Rat) < b := by exact_mod_cast hb
  have z5 : ((a : Rat) - b) / (a + b) ≤ 1 / 5 := rdiv_le hs (by grind)
  have z0 : 0 ≤ ((a : Rat) - b) / (a + b) := le_rdiv hs (by grind)
  have hi : i ≤ 70 := by
    rcases Nat.lt_or_ge 70 i with g | g
    · exfalso
      have p := h3 70 g
      have q := (llPw_rat hb hab hu h5 70).2.1
      have p1 : (1 : Rat) ≤ (llPw a b u 70 : Rat) := by exact_mod_cast (show 1 ≤ llPw a b u 70 by omega)
      have w := (rpow_le z0 z5 (2 * 70 + 1)).1
      have hu3 : (u : Rat) ≤ 10 ^ 45 := by
        have := Rat.intCast_le_intCast.mpr hu2
        rw [Rat.intCast_pow] at this
        exact this
      have k := Rat.mul_nonneg (show (0 : Rat) ≤ (1 / 5 : Rat) ^ (2 * 70 + 1) - (((a : Rat) - b) / (a + b)) ^ (2 * 70 + 1) by grind) (Rat.le_of_lt huq)
      have k2 := Rat.mul_nonneg (show (0 : Rat) ≤ 10 ^ 45 - u by grind) (show (0 : Rat) ≤ (1 / 5 : Rat) ^ (2 * 70 + 1) by decide +kernel)
      have k3 : 2 * (10 : Rat) ^ 45 * (1 / 5 : Rat) ^ (2 * 70 + 1) < 1 := by decide +kernel
      generalize (((a : Rat) - b) / (a + b)) ^ (2 * 70 + 1) = A at *
      generalize (1 / 5 : Rat) ^ (2 * 70 + 1) = B at *
      generalize (10 : Rat) ^ 45 = C at *
      grind
    · exact g
  have iq : (i : Rat) ≤ 70 := by
    have : ((i : Nat) : Rat) ≤ ((70 : Nat) : Rat) := by exact_mod_cast hi
    exact this
  have i0 : (0 : Rat) ≤ i := Rat.natCast_nonneg
  have t := llTot_rat hb hab hu h5 i
  rw [← h2] at t
  have pw := (llPw_rat hb hab hu h5 i).2.2
  have pw0 : (llPw a b u i : Rat) ≤ 0 := by exact_mod_cast h1
  have lo := at_lo z0 (by grind) i
  have hi' := at_hi z0 (by grind) i
  have hq : (1 + ((a : Rat) - b) / (a + b)) / (1 - ((a : Rat) - b) / (a + b)) = (a : Rat) / b := by
    have h1 : 1 + ((a : Rat) - b) / (a + b) = 2 * a / (a + b) := by grind
    have h2 : 1 - ((a : Rat) - b) / (a + b) = 2 * b / (a + b) := by grind
    rw [h1, h2]
    have : (a : Rat) + b ≠ 0 := by grind
    have : (b : Rat) ≠ 0 := by grind
    grind
  rw [hq] at lo hi'
  have zz : 0 ≤ (((a : Rat) - b) / (a + b)) ^ (2 * i + 1) := (rpow_le z0 z5 (2 * i + 1)).2
  generalize (((a : Rat) - b) / (a + b)) ^ (2 * i + 1) = Z at *
  generalize llF (((a : Rat) - b) / (a + b)) i = F at *
  have hn : (0 : Rat) < 2 * i + 1 := by grind
  have er : u * (4 * Z / (2 * i + 1)) ≤ 4 := by
    have e : u * (4 * Z / (2 * (i : Rat) + 1)) = 4 * u * Z / (2 * i + 1) := by grind
    rw [e]
    refine rdiv_le hn ?_
    grind
  have er0 : 0 ≤ 4 * Z / (2 * (i : Rat) + 1) := le_rdiv hn (by grind)
  generalize 4 * Z / (2 * (i : Rat) + 1) = W at *
  constructor
  · exact lo.mono (rdiv_le huq (by grind)) Rat.le_refl
  · exact hi'.mono (le_rdiv huq (by grind)) Rat.le_refl
/-- log (3/2) -/
theorem log32 : Ug (4056 / 10000) (3 / 2) := by
  have a := tay_hi (s := 1) (u := 1 / 2) (Or.inl rfl) (by grind) (by grind) 14
  refine a.mono (by decide +kernel) (by decide +kernel)
end Mine

end
section
namespace Mine
theorem pow_big {p : Nat} (hp : 3 ≤ p) : (1000 : Int) ≤ 10 ^ p := by
  obtain ⟨q, rfl⟩ : ∃ q, p = 3 + q := ⟨p - 3, by omega⟩
  rw [Int.pow_add]
  have : (0 : Int) < 10 ^ q := Int.pow_pos (by decide)
  have : (10 : Int) ^ 3 = 1000 := by decide
  omega
theorem two_pow_lt {M : Int} {R h : Nat} (hM : 0 < M) (g : M * 2 ^ R < M * 2 ^ h) : R < h := by
  rcases Nat.lt_or_ge R h with k | k
  · exact k
  · exfalso
    have e : (2 : Int) ^ h ≤ 2 ^ R := by
      obtain ⟨j, rfl⟩ : ∃ j, R = h + j := ⟨R - h, by omega⟩
      rw [Int.pow_add]
      have h1 : (0 : Int) < 2 ^ h := Int.pow_pos (by decide)
      have h2 : (0 : Int) < 2 ^ j := Int.pow_pos (by decide)
      have := Int.mul_le_mul_of_nonneg_left (show (1 : Int) ≤ 2 ^ j by omega) (Int.le_of_lt h1)
      omega
    have := Int.mul_le_mul_of_nonneg_left e (Int.le_of_lt hM)
    omega
theorem redR_P {x M Y : Int} {h : Nat} (hM : 1000 ≤ M) (hx : x = M + Y) (hY0 : 0 ≤ Y) (hY : 3 * Y ≤ M) (hh : 256 * Y < M * 2 ^ h) {R : Nat} {y : Int} (hr : RedTo x M R y) : R ≤ h := by
  cases hr with
  | zero => omega
  | @succ R y s hr hc hs =>
    have c := chainP hM hx hY0 hY hr
    have := two_pow_lt (R := R) (h := h) (show 0 < M by omega) (by omega)
    omega
theorem hcases {h : Nat} (hh : h ≤ 7) : h = 0 ∨ h = 1 ∨ h = 2 ∨ h = 3 ∨ h = 4 ∨ h = 5 ∨ h = 6 ∨ h = 7 := by omega
theorem nat_le_q {a b : Nat} (h : a ≤ b) : (a : Rat) ≤ b := by exact_mod_cast h
/-- above one -/
theorem keyP {p h : Nat} {x M Y D : Int} (hp : 3 ≤ p) (hM : M = 10 ^ p) (hx : x = M + Y) (hY0 : 1 ≤ Y) (hY : 3 * Y < M) (hh : 256 * Y < M * 2 ^ h) (h7 : h ≤ 7) (hD : IsIlog p x M D) :
    ∃ B : Rat, B ≤ 3 / 4 * (h + 1) - 1 / 1000 ∧ Lg (((D : Rat) - B) / M) ((x : Rat) / M) ∧ Ug (((D : Rat) + B) / M) ((x : Rat) / M) := by
  have hMk : 1000 ≤ M := by rw [hM]; exact pow_big hp
  obtain ⟨R, y, hr, hc, rfl⟩ := hD
  have hRh := redR_P hMk hx (by omega) (by omega) hh hr
  obtain ⟨y0, y1, A, iA, bA⟩ := chainP hMk hx (by omega) (by omega) hr
  have y0q : (0 : Rat) ≤ y := by exact_mod_cast y0
  have y1q : (y : Rat) ≤ Y := by exact_mod_cast y1
  have f := il_final (κ := 1 / 2) (Y := (Y : Rat)) hp hM iA hc (Or.inl rfl) (by grind) y1q
  refine ⟨_, ?_, f.1, f.2⟩
  have hm := cast_k hMk
  have hm0 : (0 : Rat) < M := by grind
  have Y0q : (0 : Rat) ≤ Y := by exact_mod_cast (show 0 ≤ Y by omega)
  have c0 : 0 ≤ (Y : Rat) / M := le_rdiv hm0 (by grind)
  have c3 : (Y : Rat) / M ≤ 1 / 3 := by
    refine rdiv_le hm0 ?_
    have := Rat.intCast_le_intCast.mpr (show 3 * Y ≤ M by omega)
    rw [Rat.intCast_mul, show (((3 : Int)) : Rat) = 3 from rfl] at this
    grind
  have cZ : (Y : Rat) / M ≤ 2 ^ h / 256 := by
    refine rdiv_le hm0 ?_
    have := Rat.intCast_le_intCast.mpr (show 256 * Y ≤ M * 2 ^ h by omega)
    rw [Rat.intCast_mul, Rat.intCast_mul, cast_two_pow, show (((256 : Int)) : Rat) = 256 from rfl] at this
    grind
  have mi : 1 / (M : Rat) ≤ 1 / 1000 := rdiv_le hm0 (by grind)
  have hR1 := nat_le_q hRh
  have hR0 : (0 : Rat) ≤ R := Rat.natCast_nonneg
  have hi : 0 < 1 / (2 : Rat) ^ R := rdiv_pos (by grind) (c2pos R)
  have k1 := Rat.mul_nonneg (show (0 : Rat) ≤ h - R by grind) (show (0 : Rat) ≤ 1 / 2 + 5 / 13 * ((Y : Rat) / M) + 1 / 1000 by grind)
  have k2 := Rat.mul_nonneg hR0 (show (0 : Rat) ≤ 1 / 1000 - 1 / (M : Rat) by grind)
  have k3 := Rat.mul_nonneg c0 (Rat.le_of_lt hi)
  generalize (Y : Rat) / M = c at *
  generalize 1 / (M : Rat) = i at *
  generalize 1 / (2 : Rat) ^ R = t at *
  generalize A * (M : Rat) = E at *
  rcases hcases h7 with e | e | e | e | e | e | e | e <;> subst e <;> simp only [Rat.pow_succ, Rat.pow_zero] at cZ <;> push_cast at k1 ⊢ <;> grind
end Mine

end
section
namespace Mine
theorem sq_ge_d {M d s : Int} (hd : 0 ≤ d) (hd2 : (d + 1) * (d + 1) ≤ 4 * M) (hs : IsSq (M * (M - d)) s) : 2 * M - d - 1 ≤ 2 * s := by
  rcases Int.lt_or_le (2 * s) (2 * M - d - 1) with h | h
  · exfalso
    have h0 := hs.1
    have h3 := hs.2.2
    have h1 : (2 * s + 1) * (2 * s + 1) ≤ (2 * M - d - 1) * (2 * M - d - 1) := Int.mul_le_mul (by omega) (by omega) (by omega) (by omega)
    have e1 : (2 * s + 1) * (2 * s + 1) = 4 * (s * s + s) + 1 := by grind
    have e2 : (2 * M - d - 1) * (2 * M - d - 1) = 4 * (M * (M - d)) - 4 * M + (d + 1) * (d + 1) := by grind
    omega
  · exact h
theorem grow {M y s u k D : Int} {R : Nat} (hM : 0 < M) (hy : y ≤ 0) (hu : -u ≤ y) (hk : 0 ≤ k) (hD : -(divN y (2 ^ R)) ≤ D) (hD2 : (D + 1) * (D + 1) ≤ 4 * M) (hc : (2 * u + 2 * k + 1) * (D + 1) < 4 * M * (2 * k + 1))
    (hs : IsSq (M * (M + divN y (2 ^ R))) s) : -(u + k) ≤ divN (M * y * 2) (M + s) ∧ divN (M * y * 2) (M + s) ≤ 0 := by
  have hPi : (0 : Int) < 2 ^ R := Int.pow_pos (by decide)
  have hr0 : divN y (2 ^ R) ≤ 0 := divN_le hPi (by omega)
  have y'0 : divN (M * y * 2) (M + s) ≤ 0 := divN_le (by have := hs.1; omega) (by
    have := Int.mul_nonpos_of_nonneg_of_nonpos (show 0 ≤ M by omega) hy
    omega)
  refine ⟨?_, y'0⟩
  generalize hd : -(divN y (2 ^ R)) = d at *
  have hs' : IsSq (M * (M - d)) s := by rw [← hd, Int.sub_neg]; exact hs
  have d2 : (d + 1) * (d + 1) ≤ 4 * M := by
    have : (d + 1) * (d + 1) ≤ (D + 1) * (D + 1) := Int.mul_le_mul (by omega) (by omega) (by omega) (by omega)
    omega
  have sl := sq_ge_d (by omega) d2 hs'
  have s0 := hs.1
  rcases Int.lt_or_le (divN (M * y * 2) (M + s)) (-(u + k)) with g | g
  · exfalso
    have b := (divN_bounds (M * y * 2) (b := M + s) (by omega)).1
    have g1 : divN (M * y * 2) (M + s) * (M + s) ≤ (-(u + k) - 1) * (M + s) := Int.mul_le_mul_of_nonneg_right (by omega) (by omega)
    have e1 : (-(u + k) - 1) * (M + s) * 2 = -((2 * u + 2 * k + 1) * (M + s)) - (M + s) := by grind
    -- (2u+2k+1)(M+s) ≤ -4 M y ≤ 4 M u
    have g2 : M * (-u) ≤ M * y := Int.mul_le_mul_of_nonneg_left hu (by omega)
    have e2 : M * (-u) = -(M * u) := by grind
    have g3 : (2 * u + 2 * k + 1) * (4 * M - D - 1) ≤ (2 * u + 2 * k + 1) * (2 * (M + s)) := Int.mul_le_mul_of_nonneg_left (by omega) (by omega)
    have e3 : (2 * u + 2 * k + 1) * (4 * M - D - 1) = 8 * (M * u) + 4 * M * (2 * k + 1) - (2 * u + 2 * k + 1) * (D + 1) := by grind
    have e4 : (2 * u + 2 * k + 1) * (2 * (M + s)) = 2 * ((2 * u + 2 * k + 1) * (M + s)) := by grind
    have e5 : M * y * 2 = 2 * (M * y) := by grind
    omega
  · exact g
theorem stay {x M Y : Int} (hM : 0 < M) (hx : x = M - Y) (hY0 : 0 ≤ Y) (h1 : (Y + 1) * (Y + 1) ≤ 4 * M) (h2 : (2 * Y + 1) * (Y + 1) < 4 * M) {R : Nat} {y : Int} (h : RedTo x M R y) : -Y ≤ y ∧ y ≤ 0 := by
  induction h with
  | zero => omega
  | @succ R y s hr hc hs ih =>
    have hd : -(divN y (2 ^ R)) ≤ Y := by
      have := divN_abs y (b := 2 ^ R) (Int.pow_pos (by decide))
      omega
    have := grow (u := Y) (k := 0) (D := Y) hM ih.2 ih.1 (by omega) hd h1 (by
      have e : (2 * Y + 2 * 0 + 1) * (Y + 1) = (2 * Y + 1) * (Y + 1) := by grind
      omega) hs
    omega
theorem stay59 {x M Y : Int} (hM : M = 1000) (hx : x = M - Y) (hY0 : 0 ≤ Y) (hY : Y ≤ 58) {R : Nat} {y : Int} (h : RedTo x M R y) : -59 ≤ y ∧ y ≤ 0 ∧ (R = 0 → -58 ≤ y) := by
  induction h with
  | zero => omega
  | @succ R y s hr hc hs ih =>
    rcases Nat.eq_zero_or_pos R with e | e
    · have hd : -(divN y (2 ^ R)) ≤ 58 := by
        have := divN_abs y (b := 2 ^ R) (Int.pow_pos (by decide))
        omega
      have := grow (u := 58) (k := 1) (D := 58) (by omega) ih.2.1 (ih.2.2 e) (by omega) hd (by omega) (by omega) hs
      omega
    · have hd : -(divN y (2 ^ R)) ≤ 30 := by
        obtain ⟨j, rfl⟩ : ∃ j, R = j + 1 := ⟨R - 1, by omega⟩
        have hp : (0 : Int) < 2 ^ j := Int.pow_pos (by decide)
        have : (-30 : Int) ≤ divN y (2 ^ (j + 1)) := le_divN (Int.pow_pos (by decide)) (by rw [Int.pow_succ]; omega)
        omega
      have := grow (u := 59) (k := 0) (D := 30) (by omega) ih.2.1 ih.1 (by omega) hd (by omega) (by omega) hs
      omega
end Mine

end
section
namespace Mine
section
variable {x M Y : Int}
theorem z_facts (hM : 1000 ≤ M) (hx : x = M - Y) (hY0 : 0 ≤ Y) (hY : 3 * Y ≤ M) : (0 : Rat) < x ∧ (M : Rat) / x = 1 + (Y : Rat) / x ∧ 0 ≤ (Y : Rat) / x ∧ 2 * ((Y : Rat) / x) ≤ 1 ∧ (Y : Rat) ≤ (Y : Rat) / x * M := by
  have hx0 : (0 : Rat) < x := by exact_mod_cast (show 0 < x by omega)
  have Yq : (0 : Rat) ≤ Y := by exact_mod_cast hY0
  have exq : (x : Rat) = M - Y := by rw [hx, Rat.intCast_sub]
  have h3 : (3 : Rat) * Y ≤ M := by
    have := Rat.intCast_le_intCast.mpr hY
    rw [Rat.intCast_mul] at this
    exact this
  have z0 : 0 ≤ (Y : Rat) / x := le_rdiv hx0 (by grind)
  have zh : (Y : Rat) / x ≤ 1 / 2 := rdiv_le hx0 (by grind)
  have ez : (Y : Rat) / x * x = Y := fld3 hx0
  refine ⟨hx0, ?_, z0, by grind, ?_⟩
  · have : (M : Rat) = x + Y := by grind
    rw [this]; grind
  · have k := Rat.mul_nonneg z0 Yq
    have eM : (M : Rat) = x + Y := by grind
    rw [eM, Rat.mul_add, ez]
    grind
theorem ug_z (hM : 1000 ≤ M) (hx : x = M - Y) (hY0 : 0 ≤ Y) (hY : 3 * Y ≤ M) : Ug ((Y : Rat) / x) ((M : Rat) / x) := by
  obtain ⟨hx0, e, z0, zh, _⟩ := z_facts hM hx hY0 hY
  rw [e]
  exact (Ug.basic (by grind)).mono (by grind) Rat.le_refl
theorem ug_z2 (hM : 1000 ≤ M) (hx : x = M - Y) (hY0 : 0 ≤ Y) (hY : 3 * Y ≤ M) : Ug ((Y : Rat) / x - (Y : Rat) / x * ((Y : Rat) / x) / 2 + 2 / 3 * ((Y : Rat) / x * ((Y : Rat) / x) * ((Y : Rat) / x))) ((M : Rat) / x) := by
  obtain ⟨hx0, e, z0, zh, _⟩ := z_facts hM hx hY0 hY
  rw [e]
  have a := tay_hi (s := 1) (u := (Y : Rat) / x) (Or.inl rfl) z0 zh 2
  refine a.mono ?_ (by grind)
  rw [Rat.one_mul]
  generalize (Y : Rat) / x = z
  simp only [lgS, Rat.pow_succ, Rat.pow_zero]
  push_cast
  grind
theorem z_lt (hM : 1000 ≤ M) (hx : x = M - Y) (hY0 : 0 ≤ Y) (hY : 3 * Y ≤ M) {h : Nat} (hh : 256 * Y < 2 ^ h * x) : (Y : Rat) / x ≤ 2 ^ h / 256 := by
  obtain ⟨hx0, e, z0, zh, _⟩ := z_facts hM hx hY0 hY
  refine rdiv_le hx0 ?_
  have := Rat.intCast_le_intCast.mpr (show 256 * Y ≤ 2 ^ h * x by omega)
  rw [Rat.intCast_mul, Rat.intCast_mul, cast_two_pow, show (((256 : Int)) : Rat) = 256 from rfl] at this
  grind
/-- the chain below one for a step h up to 6 -/
theorem chainN6 (hM : 1000 ≤ M) (hx : x = M - Y) (hY0 : 0 ≤ Y) (hY : 3 * Y ≤ M) {h : Nat} (hh : 256 * Y < 2 ^ h * x) (h6 : h ≤ 6) {R : Nat} {y : Int} (hr : RedTo x M R y) :
    R ≤ 7 ∧ y ≤ 0 ∧ -(y : Rat) ≤ (2 ^ h / 256 + 8 / M) * M ∧ ∃ A, IlInv x M R y A ∧ A * M ≤ errN (2 ^ h / 256 + 8 / M) M R := by
  obtain ⟨hx0, e, z0, zh, zy⟩ := z_facts hM hx hY0 hY
  have zl := z_lt hM hx hY0 hY hh
  have hm := cast_k hM
  have hm0 : (0 : Rat) < M := by grind
  have m8 : 8 / (M : Rat) ≤ 8 / 1000 := rdiv_le hm0 (by grind)
  have m8' : 8 / (M : Rat) * M = 8 := fld3 hm0
  have zm := Rat.mul_nonneg (show (0 : Rat) ≤ 2 ^ h / 256 - (Y : Rat) / x by grind) (Rat.le_of_lt hm0)
  have h64 : (2 : Rat) ^ h / 256 ≤ 1 / 4 := by
    have : h = 0 ∨ h = 1 ∨ h = 2 ∨ h = 3 ∨ h = 4 ∨ h = 5 ∨ h = 6 := by omega
    rcases this with e | e | e | e | e | e | e <;> subst e <;> simp only [Rat.pow_succ, Rat.pow_zero] <;> grind
  obtain ⟨a, b, _, c, d⟩ := chainN (H := (Y : Rat) / x) (c := 2 ^ h / 256 + 8 / M) hM hx hY0 hY (ug_z hM hx hY0 hY) (by grind) (by grind) (by grind) hr
  exact ⟨a, b, c, d⟩
theorem chainN7 (hM : 1000 ≤ M) (hx : x = M - Y) (hY0 : 0 ≤ Y) (hY : 3 * Y ≤ M) {R : Nat} {y : Int} (hr : RedTo x M R y) :
    R ≤ 7 ∧ y ≤ 0 ∧ -(y : Rat) ≤ (4136 / 10000 : Rat) * M ∧ ∃ A, IlInv x M R y A ∧ A * M ≤ errN (4136 / 10000) M R := by
  obtain ⟨hx0, e, z0, zh, zy⟩ := z_facts hM hx hY0 hY
  have hm := cast_k hM
  have hm0 : (0 : Rat) < M := by grind
  have hU : Ug (4056 / 10000) ((M : Rat) / x) := log32.mono Rat.le_refl (by grind)
  have h3 : (3 : Rat) * Y ≤ M := by
    have := Rat.intCast_le_intCast.mpr hY
    rw [Rat.intCast_mul] at this
    exact this
  obtain ⟨a, b, _, c, d⟩ := chainN (H := 4056 / 10000) (c := 4136 / 10000) hM hx hY0 hY hU (by grind) (by grind) (by grind) hr
  exact ⟨a, b, c, d⟩
/-- at R = h the loop ends: the numbers -/
theorem red_num {z A m Z c K M0 : Rat} {h : Nat} (hm : M0 ≤ m) (hM0 : 1000 ≤ M0) (hz : z ≤ Z) (hz0 : 0 ≤ z) (hZ : Z ≤ 1 / 4) (hc : c = Z + 8 / m) (hA : A * m ≤ errN c m h)
    (hK : h * (1 / 2 + 3 / 8 * (Z + 8 / M0) + 3 / M0) + (3 / 8 + 9 / 16 * (Z + 8 / M0)) * (2 * (Z + 8 / M0) * (1 - 1 / 2 ^ h)) ≤ K) (hZK : K < (Z * Z / 2 - 2 / 3 * (Z * Z * Z)) * M0)
    (hcond : Z * m ≤ (z - z * z / 2 + 2 / 3 * (z * z * z) + A) * m) : False := by
  have hm0 : 0 < m := by grind
  have h0 : (0 : Rat) ≤ h := Rat.natCast_nonneg
  have Z0 : 0 ≤ Z := by grind
  have m8 : 8 / m ≤ 8 / M0 := rdiv_le hm0 (by
    have : 8 / M0 * M0 = 8 := fld3 (by grind)
    have := Rat.mul_nonneg (show (0 : Rat) ≤ m - M0 by grind) (show (0 : Rat) ≤ 8 / M0 from le_rdiv (by grind) (by grind))
    grind)
  have m80 : 0 ≤ 8 / m := le_rdiv hm0 (by grind)
  have m3 : 3 / m = 3 / 8 * (8 / m) := by grind
  have m30 : 3 / M0 = 3 / 8 * (8 / M0) := by grind
  -- g is increasing
  have g1 : z - z * z / 2 + 2 / 3 * (z * z * z) ≤ Z - Z * Z / 2 + 2 / 3 * (Z * Z * Z) := by
    have k1 := Rat.mul_nonneg (show (0 : Rat) ≤ Z - z by grind) (show (0 : Rat) ≤ 1 - (Z + z) / 2 by grind)
    have k2 := Rat.mul_nonneg (show (0 : Rat) ≤ Z - z by grind) (show (0 : Rat) ≤ Z * Z + Z * z + z * z by
      have := rsq_nonneg Z
      have := rsq_nonneg z
      have := Rat.mul_nonneg Z0 hz0
      grind)
    grind
  have g2 := Rat.mul_nonneg (show (0 : Rat) ≤ Z - Z * Z / 2 + 2 / 3 * (Z * Z * Z) - (z - z * z / 2 + 2 / 3 * (z * z * z)) by grind) (Rat.le_of_lt hm0)
  have g3 : (Z * Z / 2 - 2 / 3 * (Z * Z * Z)) * m ≤ A * m := by grind
  have g4 : 0 ≤ Z * Z / 2 - 2 / 3 * (Z * Z * Z) := by
    have := Rat.mul_nonneg (rsq_nonneg Z) (show (0 : Rat) ≤ 1 / 2 - 2 / 3 * Z by grind)
    grind
  have g5 := Rat.mul_nonneg g4 (show (0 : Rat) ≤ m - M0 by grind)
  -- errN is at most K
  have hi : 0 < 1 / (2 : Rat) ^ h := rdiv_pos (by grind) (c2pos h)
  have hi1 : 1 / (2 : Rat) ^ h ≤ 1 := rdiv_le (c2pos h) (by have := two_pow_ge h; grind)
  have hcc : c ≤ Z + 8 / M0 := by grind
  have c0 : 0 ≤ c := by grind
  unfold errN at hA
  rw [m3] at hA
  rw [m30] at hK
  generalize hw : Z + 8 / M0 = w at *
  have k1 := Rat.mul_nonneg h0 (show (0 : Rat) ≤ 3 / 8 * (w - c) + 3 / 8 * (8 / M0 - 8 / m) by grind)
  have k2 := Rat.mul_nonneg (show (0 : Rat) ≤ 1 - 1 / (2 : Rat) ^ h by grind) (show (0 : Rat) ≤ (3 / 8 + 9 / 16 * w) * (2 * w) - (3 / 8 + 9 / 16 * c) * (2 * c) by
    have := Rat.mul_nonneg (show (0 : Rat) ≤ w - c by grind) (show (0 : Rat) ≤ 3 / 4 + 9 / 8 * (w + c) by grind)
    grind)
  generalize 1 / (2 : Rat) ^ h = t at *
  generalize 8 / m = i at *
  generalize 8 / M0 = j at *
  grind
end
end Mine

end
section
namespace Mine
theorem pow_ge {p q : Nat} (h : q ≤ p) : (10 : Int) ^ q ≤ 10 ^ p := by
  obtain ⟨j, rfl⟩ : ∃ j, p = q + j := ⟨p - q, by omega⟩
  rw [Int.pow_add]
  have h1 : (0 : Int) < 10 ^ q := Int.pow_pos (by decide)
  have h2 : (0 : Int) < 10 ^ j := Int.pow_pos (by decide)
  have := Int.mul_le_mul_of_nonneg_left (show (1 : Int) ≤ 10 ^ j by omega) (Int.le_of_lt h1)
  omega
theorem cast_ge {M : Int} {k : Nat} (h : (k : Int) ≤ M) : (k : Rat) ≤ M := by
  have := Rat.intCast_le_intCast.mpr h
  rwa [Rat.intCast_natCast] at this
/-- the loop is through at R = h -/
theorem ends_N {p h : Nat} {x M Y : Int} (hp : 3 ≤ p) (hM : M = 10 ^ p) (hx : x = M - Y) (hY0 : 1 ≤ Y) (hY : 3 * Y < M) (hh : 256 * Y < 2 ^ h * x) (h7 : h ≤ 7) {y : Int} (hr : RedTo x M h y) (hc : M * 2 ^ h ≤ 256 * (y.natAbs : Int)) : False := by
  have hMk : 1000 ≤ M := by rw [hM]; exact pow_big hp
  have hm := cast_k hMk
  have hm0 : (0 : Rat) < M := by grind
  rcases Nat.eq_zero_or_pos h with h0 | h0
  · subst h0
    cases hr
    rw [Int.pow_zero] at hc hh
    omega
  rcases Nat.lt_or_ge 6 h with g | g
  · have h7' : h = 7 := by omega
    subst h7'
    obtain ⟨_, y0, yc, _⟩ := chainN7 hMk hx (by omega) (by omega) hr
    have h2 : ((-(10000 * y) : Int) : Rat) ≤ ((4136 * M : Int) : Rat) := by
      rw [Rat.intCast_neg, Rat.intCast_mul, Rat.intCast_mul, show (((10000 : Int)) : Rat) = 10000 from rfl, show (((4136 : Int)) : Rat) = 4136 from rfl]
      grind
    have h3 := Rat.intCast_le_intCast.mp h2
    have e : (2 : Int) ^ 7 = 128 := by decide
    rw [e] at hc
    omega
  -- small M by the turns themselves
  have small : (p = 3 ∧ h ≤ 4) ∨ (p = 4 ∧ h = 1) ∨ (p = 3 ∧ 5 ≤ h) ∨ (p = 4 ∧ 2 ≤ h) ∨ 5 ≤ p := by omega
  have big : ∀ M0 : Nat, 1000 ≤ M0 → (M0 : Int) ≤ M →
      (∀ K : Rat, (h : Rat) * (1 / 2 + 3 / 8 * (2 ^ h / 256 + 8 / (M0 : Rat)) + 3 / (M0 : Rat)) + (3 / 8 + 9 / 16 * (2 ^ h / 256 + 8 / (M0 : Rat))) * (2 * (2 ^ h / 256 + 8 / (M0 : Rat)) * (1 - 1 / 2 ^ h)) ≤ K →
        K < ((2 : Rat) ^ h / 256 * (2 ^ h / 256) / 2 - 2 / 3 * (2 ^ h / 256 * (2 ^ h / 256) * (2 ^ h / 256))) * M0 → False) := by
    intro M0 hM0 hM1 K hK hK2
    obtain ⟨_, y0, _, A, iA, bA⟩ := chainN6 hMk hx (by omega) (by omega) hh g hr
    obtain ⟨hx0, e, z0, zh, zy⟩ := z_facts hMk hx (by omega) (by omega)
    have sz := size_N (by omega) (by exact_mod_cast hx0) iA (ug_z2 hMk hx (by omega) (by omega))
    have zl := z_lt hMk hx (by omega) (by omega) hh
    have hcq : (2 : Rat) ^ h / 256 * M ≤ -(y : Rat) := by
      have k : M * 2 ^ h ≤ -(256 * y) := by omega
      have := Rat.intCast_le_intCast.mpr k
      rw [Rat.intCast_mul, cast_two_pow, Rat.intCast_neg, Rat.intCast_mul, show (((256 : Int)) : Rat) = 256 from rfl] at this
      grind
    have h64 : (2 : Rat) ^ h / 256 ≤ 1 / 4 := by
      have : h = 1 ∨ h = 2 ∨ h = 3 ∨ h = 4 ∨ h = 5 ∨ h = 6 := by omega
      rcases this with e | e | e | e | e | e <;> subst e <;> simp only [Rat.pow_succ, Rat.pow_zero] <;> grind
    exact red_num (M0 := (M0 : Rat)) (cast_ge hM1) (by exact_mod_cast hM0) zl z0 h64 rfl bA hK hK2 (by grind)
  rcases small with ⟨e, h4⟩ | ⟨e, h1⟩ | ⟨e, h5⟩ | ⟨e, h2⟩ | e
  · subst e
    have e3 : (10 : Int) ^ 3 = 1000 := by decide
    rw [e3] at hM
    have hcs : h = 1 ∨ h = 2 ∨ h = 3 ∨ h = 4 := by omega
    rcases hcs with e | e | e | e <;> subst e
    · have e1 : (2 : Int) ^ 1 = 2 := by decide
      rw [e1] at hh hc
      have hY7 : Y ≤ 7 := by omega
      have k : (Y + 1) * (Y + 1) ≤ 8 * 8 := Int.mul_le_mul (by omega) (by omega) (by omega) (by omega)
      have k2 : (2 * Y + 1) * (Y + 1) ≤ 15 * 8 := Int.mul_le_mul (by omega) (by omega) (by omega) (by omega)
      have := stay (by omega) hx (by omega) (by omega) (by omega) hr
      omega
    · have e1 : (2 : Int) ^ 2 = 4 := by decide
      rw [e1] at hh hc
      have hY7 : Y ≤ 15 := by omega
      have k : (Y + 1) * (Y + 1) ≤ 16 * 16 := Int.mul_le_mul (by omega) (by omega) (by omega) (by omega)
      have k2 : (2 * Y + 1) * (Y + 1) ≤ 31 * 16 := Int.mul_le_mul (by omega) (by omega) (by omega) (by omega)
      have := stay (by omega) hx (by omega) (by omega) (by omega) hr
      omega
    · have e1 : (2 : Int) ^ 3 = 8 := by decide
      rw [e1] at hh hc
      have hY7 : Y ≤ 30 := by omega
      have k : (Y + 1) * (Y + 1) ≤ 31 * 31 := Int.mul_le_mul (by omega) (by omega) (by omega) (by omega)
      have k2 : (2 * Y + 1) * (Y + 1) ≤ 61 * 31 := Int.mul_le_mul (by omega) (by omega) (by omega) (by omega)
      have := stay (by omega) hx (by omega) (by omega) (by omega) hr
      omega
    · have e1 : (2 : Int) ^ 4 = 16 := by decide
      rw [e1] at hh hc
      have := stay59 hM hx (by omega) (by omega) hr
      omega
  · subst e h1
    have e3 : (10 : Int) ^ 4 = 10000 := by decide
    rw [e3] at hM
    have e1 : (2 : Int) ^ 1 = 2 := by decide
    rw [e1] at hh hc
    have hY7 : Y ≤ 77 := by omega
    have k : (Y + 1) * (Y + 1) ≤ 78 * 78 := Int.mul_le_mul (by omega) (by omega) (by omega) (by omega)
    have k2 : (2 * Y + 1) * (Y + 1) ≤ 155 * 78 := Int.mul_le_mul (by omega) (by omega) (by omega) (by omega)
    have := stay (by omega) hx (by omega) (by omega) (by omega) hr
    omega
  · have hb := big 1000 (by omega) (by omega)
    have hcs : h = 5 ∨ h = 6 := by omega
    rcases hcs with e | e <;> subst e
    · exact hb _ Rat.le_refl (by decide +kernel)
    · exact hb _ Rat.le_refl (by decide +kernel)
  · have hb := big 10000 (by omega) (by rw [hM, e]; decide)
    have hcs : h = 2 ∨ h = 3 ∨ h = 4 ∨ h = 5 ∨ h = 6 := by omega
    rcases hcs with e | e | e | e | e <;> subst e <;> exact hb _ Rat.le_refl (by decide +kernel)
  · have hb := big 100000 (by omega) (by
      rw [hM]
      have := pow_ge e
      have e5 : (10 : Int) ^ 5 = 100000 := by decide
      omega)
    have hcs : h = 1 ∨ h = 2 ∨ h = 3 ∨ h = 4 ∨ h = 5 ∨ h = 6 := by omega
    rcases hcs with e | e | e | e | e | e <;> subst e <;> exact hb _ Rat.le_refl (by decide +kernel)
theorem redR_N {p h : Nat} {x M Y : Int} (hp : 3 ≤ p) (hM : M = 10 ^ p) (hx : x = M - Y) (hY0 : 1 ≤ Y) (hY : 3 * Y < M) (hh : 256 * Y < 2 ^ h * x) (h7 : h ≤ 7) {R : Nat} {y : Int} (hr : RedTo x M R y) : R ≤ h := by
  induction hr with
  | zero => omega
  | @succ R y s hr hc hs ih =>
    rcases Nat.lt_or_ge R h with g | g
    · omega
    · have : R = h := by omega
      subst this
      exact (ends_N hp hM hx hY0 hY hh h7 hr hc).elim
end Mine

end
section
namespace Mine
theorem errN_mono {c m : Rat} (hm : 1000 ≤ m) (h0 : 0 ≤ c) {R h : Nat} (hR : R ≤ h) : errN c m R ≤ h * (1 / 2 + 3 / 8 * c + 3 / 1000) + (3 / 8 + 9 / 16 * c) * (2 * c) := by
  unfold errN
  have hR1 := nat_le_q hR
  have hR0 : (0 : Rat) ≤ R := Rat.natCast_nonneg
  have hp := c2pos R
  have hi : 0 < 1 / (2 : Rat) ^ R := rdiv_pos (by grind) hp
  have mi : 3 / m ≤ 3 / 1000 := rdiv_le (by grind) (by grind)
  have mi0 : 0 ≤ 3 / m := le_rdiv (by grind) (by grind)
  have k1 := Rat.mul_nonneg (show (0 : Rat) ≤ h - R by grind) (show (0 : Rat) ≤ 1 / 2 + 3 / 8 * c + 3 / 1000 by grind)
  have k2 := Rat.mul_nonneg (Rat.mul_nonneg h0 (Rat.le_of_lt hi)) (show (0 : Rat) ≤ 3 / 8 + 9 / 16 * c by grind)
  have k3 := Rat.mul_nonneg hR0 (show (0 : Rat) ≤ 3 / 1000 - 3 / m by grind)
  generalize 1 / (2 : Rat) ^ R = t at *
  generalize 3 / m = i at *
  grind
/-- below one -/
theorem keyN {p h : Nat} {x M Y D : Int} (hp : 3 ≤ p) (hM : M = 10 ^ p) (hx : x = M - Y) (hY0 : 1 ≤ Y) (hY : 3 * Y < M) (hh : 256 * Y < 2 ^ h * x) (h7 : h ≤ 7) (hD : IsIlog p x M D) :
    ∃ B : Rat, B ≤ 3 / 4 * (h + 1) - 1 / 1000 ∧ Lg (((D : Rat) - B) / M) ((x : Rat) / M) ∧ Ug (((D : Rat) + B) / M) ((x : Rat) / M) := by
  have hMk : 1000 ≤ M := by rw [hM]; exact pow_big hp
  have hm := cast_k hMk
  have hm0 : (0 : Rat) < M := by grind
  obtain ⟨R, y, hr, hc, rfl⟩ := hD
  have hRh := redR_N hp hM hx hY0 hY hh h7 hr
  have core : ∃ c : Rat, 0 ≤ c ∧ y ≤ 0 ∧ -(y : Rat) ≤ c * M ∧ (∃ A, IlInv x M R y A ∧ A * M ≤ errN c M R) ∧
      1 / 2 + (173 / 300 + 13 / 50) * c + (h * (1 / 2 + 3 / 8 * c + 3 / 1000) + (3 / 8 + 9 / 16 * c) * (2 * c)) ≤ 3 / 4 * ((h : Rat) + 1) - 1 / 1000 := by
    rcases Nat.lt_or_ge 6 h with g | g
    · have h7' : h = 7 := by omega
      subst h7'
      obtain ⟨_, y0, yc, A⟩ := chainN7 hMk hx (by omega) (by omega) hr
      exact ⟨_, by grind, y0, yc, A, by decide +kernel⟩
    · obtain ⟨_, y0, yc, A⟩ := chainN6 hMk hx (by omega) (by omega) hh g hr
      have m8 : 8 / (M : Rat) ≤ 8 / 1000 := rdiv_le hm0 (by grind)
      have m80 : 0 ≤ 8 / (M : Rat) := le_rdiv hm0 (by grind)
      have hp2 := c2pos h
      refine ⟨_, by grind, y0, yc, A, ?_⟩
      have h0 : (0 : Rat) ≤ h := Rat.natCast_nonneg
      -- monotone in c: put c' = Z + 8/1000
      have mono : ∀ c c' : Rat, 0 ≤ c → c ≤ c' → 1 / 2 + (173 / 300 + 13 / 50) * c + (h * (1 / 2 + 3 / 8 * c + 3 / 1000) + (3 / 8 + 9 / 16 * c) * (2 * c)) ≤ 1 / 2 + (173 / 300 + 13 / 50) * c' + (h * (1 / 2 + 3 / 8 * c' + 3 / 1000) + (3 / 8 + 9 / 16 * c') * (2 * c')) := by
        intro c c' hc0 hcc
        have k1 := Rat.mul_nonneg h0 (show (0 : Rat) ≤ c' - c by grind)
        have k2 := Rat.mul_nonneg (show (0 : Rat) ≤ c' - c by grind) (show (0 : Rat) ≤ c' + c by grind)
        grind
      refine Rat.le_trans (mono _ (2 ^ h / 256 + 8 / 1000) (by grind) (by grind)) ?_
      have hcs : h = 0 ∨ h = 1 ∨ h = 2 ∨ h = 3 ∨ h = 4 ∨ h = 5 ∨ h = 6 := by omega
      rcases hcs with e | e | e | e | e | e | e <;> subst e <;> decide +kernel
  obtain ⟨c, c0, y0, yc, ⟨A, iA, bA⟩, fin⟩ := core
  have y0q : (y : Rat) ≤ 0 := by exact_mod_cast y0
  have f := il_final (κ := 1 / 2) (Y := c * M) hp hM iA hc (Or.inl rfl) (by grind) (by grind)
  refine ⟨_, ?_, f.1, f.2⟩
  have e : c * (M : Rat) / M = c := by have : (M : Rat) ≠ 0 := by grind
                                       grind
  rw [e]
  have em := errN_mono hm c0 hRh
  grind
/-- what the walk asks, above one -/
theorem redOk_P {p : Nat} {x M Y : Int} (hp : 3 ≤ p) (hM : M = 10 ^ p) (hx : x = M + Y) (hY0 : 0 ≤ Y) (hY : 3 * Y < M) : RedOk x M := by
  have hMk : 1000 ≤ M := by rw [hM]; exact pow_big hp
  intro R y hr
  have c := chainP hMk hx hY0 (by omega) hr
  have e7 : (2 : Int) ^ 7 = 128 := by decide
  have h7 := redR_P (h := 7) hMk hx hY0 (by omega) (by rw [e7]; omega) hr
  have : 0 ≤ divN y (2 ^ R) := le_divN (Int.pow_pos (by decide)) (by omega)
  exact ⟨by omega, by omega, by omega, by omega⟩
theorem redOk_N {p : Nat} {x M Y : Int} (hp : 3 ≤ p) (hM : M = 10 ^ p) (hx : x = M - Y) (hY0 : 0 ≤ Y) (hY : 3 * Y < M) : RedOk x M := by
  have hMk : 1000 ≤ M := by rw [hM]; exact pow_big hp
  intro R y hr
  obtain ⟨r7, y0, yc, _⟩ := chainN7 hMk hx hY0 (by omega) hr
  have h2 : ((-(10000 * y) : Int) : Rat) ≤ ((4136 * M : Int) : Rat) := by
    rw [Rat.intCast_neg, Rat.intCast_mul, Rat.intCast_mul, show (((10000 : Int)) : Rat) = 10000 from rfl, show (((4136 : Int)) : Rat) = 4136 from rfl]
    grind
  have h3 := Rat.intCast_le_intCast.mp h2
  have := divN_abs y (b := 2 ^ R) (Int.pow_pos (by decide))
  exact ⟨by omega, by omega, by omega, by omega⟩
end Mine

end
section
namespace Mine
theorem told_bounds (D : Int) : 100 * divN D 100 - 50 + divN D 100 % 2 ≤ D ∧ D ≤ 100 * divN D 100 + 50 - divN D 100 % 2 := by
  unfold divN
  split <;> omega
theorem fin_num {D g : Int} {B h m : Rat} (hm : 0 < m) (hB : B ≤ 3 / 4 * (h + 1) - 1 / 1000) (h1 : ((D : Rat) - B) / m ≤ ((g : Rat) + 300) / (m * 100000000)) (h2 : ((g : Rat) - 300) / (m * 100000000) ≤ ((D : Rat) + B) / m) :
    (D : Rat) * 100000000 - 75000000 * (h + 1) < g ∧ (g : Rat) < (D : Rat) * 100000000 + 75000000 * (h + 1) := by
  have hM : 0 < m * 100000000 := by grind
  have a := Rat.mul_le_mul_of_nonneg_right h1 (Rat.le_of_lt hM)
  have b := Rat.mul_le_mul_of_nonneg_right h2 (Rat.le_of_lt hM)
  rw [fld3 hM] at a b
  have e1 : ((D : Rat) - B) / m * (m * 100000000) = ((D : Rat) - B) * 100000000 := by
    have : m ≠ 0 := by grind
    grind
  have e2 : ((D : Rat) + B) / m * (m * 100000000) = ((D : Rat) + B) * 100000000 := by
    have : m ≠ 0 := by grind
    grind
  rw [e1] at a
  rw [e2] at b
  constructor <;> grind
theorem fin_int {D g : Int} {h : Nat} (k : (D : Rat) * 100000000 - 75000000 * (h + 1) < g ∧ (g : Rat) < (D : Rat) * 100000000 + 75000000 * (h + 1)) :
    (100 * divN D 100 - 50 + divN D 100 % 2) * 100000000 - 75000000 * ((h : Int) + 1) < g ∧ g < (100 * divN D 100 + 50 - divN D 100 % 2) * 100000000 + 75000000 * ((h : Int) + 1) := by
  have t := told_bounds D
  have e : (((h : Int)) : Rat) = (h : Rat) := Rat.intCast_natCast h
  have a : ((D * 100000000 - 75000000 * ((h : Int) + 1) : Int) : Rat) < (g : Rat) := by
    rw [Rat.intCast_sub, Rat.intCast_mul, Rat.intCast_mul, Rat.intCast_add, e]
    exact k.1
  have b : (g : Rat) < ((D * 100000000 + 75000000 * ((h : Int) + 1) : Int) : Rat) := by
    rw [Rat.intCast_add, Rat.intCast_mul, Rat.intCast_mul, Rat.intCast_add, e]
    exact k.2
  have a' := Rat.intCast_lt_intCast.mp a
  have b' := Rat.intCast_lt_intCast.mp b
  omega
/-- the law above one -/
theorem law03_P {p h : Nat} {M Y D g : Int} (hp : 3 ≤ p) (hp2 : p ≤ 32) (hM : M = 10 ^ p) (hY0 : 1 ≤ Y) (hY : 3 * Y < M) (hh : 256 * Y < M * 2 ^ h) (h7 : h ≤ 7) (hD : IsIlog p (M + Y) M D) (hg : IsLl (M + Y) M (M * 100000000) g) :
    (100 * divN D 100 - 50 + divN D 100 % 2) * 100000000 - 75000000 * ((h : Int) + 1) < g ∧ g < (100 * divN D 100 + 50 - divN D 100 % 2) * 100000000 + 75000000 * ((h : Int) + 1) := by
  have hMk : 1000 ≤ M := by rw [hM]; exact pow_big hp
  have hm := cast_k hMk
  obtain ⟨B, b1, b2, b3⟩ := keyP hp hM rfl hY0 hY hh h7 hD
  have hM32 : M ≤ 10 ^ 32 := by rw [hM]; exact pow_ge hp2
  have e32 : (10 : Int) ^ 45 = 10 ^ 32 * 10000000000000 := by decide +kernel
  obtain ⟨l1, l2⟩ := ll_log hg (by omega) (by omega) (by omega) (by omega) (by omega)
  have eu : (((M * 100000000 : Int)) : Rat) = M * 100000000 := by rw [Rat.intCast_mul]; rfl
  rw [eu] at l1 l2
  refine fin_int (fin_num (show (0 : Rat) < M by grind) b1 (Lg.le b2 l2) (Lg.le l1 b3))
theorem law03_N {p h : Nat} {M Y D g : Int} (hp : 3 ≤ p) (hp2 : p ≤ 32) (hM : M = 10 ^ p) (hY0 : 1 ≤ Y) (hY : 3 * Y < M) (hh : 256 * Y < 2 ^ h * (M - Y)) (h7 : h ≤ 7) (hD : IsIlog p (M - Y) M D) (hg : IsLl M (M - Y) (M * 100000000) g) :
    (100 * divN D 100 - 50 + divN D 100 % 2) * 100000000 - 75000000 * ((h : Int) + 1) < -g ∧ -g < (100 * divN D 100 + 50 - divN D 100 % 2) * 100000000 + 75000000 * ((h : Int) + 1) := by
  have hMk : 1000 ≤ M := by rw [hM]; exact pow_big hp
  have hm := cast_k hMk
  obtain ⟨B, b1, b2, b3⟩ := keyN hp hM rfl hY0 hY hh h7 hD
  have hM32 : M ≤ 10 ^ 32 := by rw [hM]; exact pow_ge hp2
  have e32 : (10 : Int) ^ 45 = 10 ^ 32 * 10000000000000 := by decide +kernel
  obtain ⟨l1, l2⟩ := ll_log hg (by omega) (by omega) (by omega) (by omega) (by omega)
  have eu : (((M * 100000000 : Int)) : Rat) = M * 100000000 := by rw [Rat.intCast_mul]; rfl
  rw [eu] at l1 l2
  have hxq : (0 : Rat) < ((M - Y : Int) : Rat) := by exact_mod_cast (show 0 < M - Y by omega)
  have hmq : (0 : Rat) < M := by grind
  have hq : 0 < (M : Rat) / ((M - Y : Int) : Rat) := rdiv_pos hmq hxq
  have ei : ((M : Rat) / ((M - Y : Int) : Rat))⁻¹ = ((M - Y : Int) : Rat) / M := by
    have : (M : Rat) ≠ 0 := by grind
    generalize ((M - Y : Int) : Rat) = X at *
    have : X ≠ 0 := by grind
    grind
  have k1 := l1.inv hq
  have k2 := l2.inv hq
  rw [ei] at k1 k2
  have en : (((-g : Int)) : Rat) = -(g : Rat) := Rat.intCast_neg g
  refine fin_int (fin_num hmq b1 ?_ ?_)
  · refine Rat.le_trans (Lg.le b2 k1) ?_
    rw [en]; grind
  · refine Rat.le_trans ?_ (Lg.le k2 b3)
    rw [en]; grind
end Mine

end
section
open PySem PySem.W PyProof.Rows
section
open PySem PySem.W PyProof.Rows
namespace Mine
theorem dlC_zero {c P : Int} : dlC c (-P - 2 + P + 2) = c := by
  rw [show -P - 2 + P + 2 = 0 by omega, dlC_pos (by decide)]
  simp
theorem p3 {P : Int} (h1 : 1 ≤ P) : 3 ≤ (P + 2).toNat := by omega
theorem p32 {P : Int} (h1 : P ≤ 30) : (P + 2).toNat ≤ 32 := by omega
theorem red03a {P Y : Int} (h1 : 1 ≤ P) (h2 : P ≤ 30) (hY : 1 ≤ Y) (hY2 : 3 * Y < 10 ^ (P + 2).toNat) : RedOk (dlC (10 ^ (P + 2).toNat + Y) (-P - 2 + P + 2)) (10 ^ (P + 2).toNat) := by
  rw [dlC_zero]
  exact redOk_P (p3 h1) rfl rfl (by omega) hY2
theorem red03b {P Y : Int} (h1 : 1 ≤ P) (h2 : P ≤ 30) (hY : 1 ≤ Y) (hY2 : 3 * Y < 10 ^ (P + 2).toNat) : RedOk (dlC (10 ^ (P + 2).toNat - Y) (-P - 2 + P + 2)) (10 ^ (P + 2).toNat) := by
  rw [dlC_zero]
  exact redOk_N (p3 h1) rfl rfl (by omega) hY2
theorem x_fit' {P Y : Int} (h1 : 1 ≤ P) (h2 : P ≤ 30) (hY : 1 ≤ Y) (hY2 : 3 * Y < 10 ^ (P + 2).toNat) : Fit 1100 (10 ^ (P + 2).toNat - Y) := x_fit (Y := -Y) h1 h2 rfl (by omega) (by omega)
/-- the Horner loop stays small -/
theorem horn_bound {M ys : Int} (hM : 0 < M) (h3 : -M ≤ 2 * ys) (h4 : 2 * ys ≤ M) : ∀ (ks : List Int) (w : Int), (∀ k ∈ ks, 0 < k) → -(2 * M + 2) ≤ w → w ≤ 2 * M + 2 → -(2 * M + 2) ≤ horn M ys w ks ∧ horn M ys w ks ≤ 2 * M + 2
  | [], w, _, h1, h2 => ⟨h1, h2⟩
  | k :: ks, w, hk, h1, h2 => by
    have t := hs_turn (pre := []) (w0 := w) hM (hk k (by simp)) rfl h1 h2 h3 h4
    exact horn_bound hM h3 h4 ks _ (fun k' h' => hk k' (by simp [h'])) t.2.1 t.2.2.1
theorem downKs_pos (n : Nat) : ∀ k ∈ downKs (n : Int) n, 0 < k := by
  intro k hk
  unfold downKs at hk
  simp at hk
  omega
theorem ilog_bound {p : Nat} {x M D : Int} (hM : 0 < M) (hR : RedOk x M) (hD : IsIlog p x M D) : D.natAbs ≤ (20 * (M + 1)).natAbs := by
  obtain ⟨R, y, hr, hc, rfl⟩ := hD
  have k := hR R y hr
  unfold ilTail
  have ys := ys_half hM hc
  have hT : (0 : Int) < tays p := by have := tays_pos p; omega
  have e : ((tays p : Int) - 1) = ((tays p - 1 : Nat) : Int) := by have := tays_pos p; omega
  have w0 := divN_abs M hT
  have hb := horn_bound hM ys.1 ys.2 (downKs ((tays p : Int) - 1) (tays p - 1)) (divN M (tays p)) (by rw [e]; exact downKs_pos _) (by omega) (by omega)
  generalize horn M (divN y (2 ^ R)) (divN M (tays p)) (downKs ((tays p : Int) - 1) (tays p - 1)) = w at *
  have hw : w.natAbs ≤ (2 * M + 2).natAbs := by omega
  have hy : y.natAbs ≤ (10 * M).natAbs := by omega
  have hm : (w * y).natAbs ≤ (2 * M + 2).natAbs * (10 * M).natAbs := by rw [Int.natAbs_mul]; exact Nat.mul_le_mul hw hy
  have e3 : (((2 * M + 2).natAbs * (10 * M).natAbs : Nat) : Int) = (20 * (M + 1)) * M := by
    rw [Int.natCast_mul, Int.natAbs_of_nonneg (by omega), Int.natAbs_of_nonneg (by omega)]; grind
  have e4 : (-(20 * (M + 1))) * M = -((20 * (M + 1)) * M) := by grind
  have a : divN (w * y) M ≤ 20 * (M + 1) := divN_le hM (by omega)
  have b : -(20 * (M + 1)) ≤ divN (w * y) M := le_divN hM (by omega)
  omega
theorem M_fit {P : Int} (h1 : 1 ≤ P) (h2 : P ≤ 30) : Fit 200 (20 * (10 ^ (P + 2).toNat + 1)) := by
  have a := ten_big h1
  have b := ten_small h2
  have e : Fit 200 ((20 : Int) * (10 ^ 32 + 1)) := by unfold Fit; decide +kernel
  exact Fit.of_le e (by omega) (by omega)
theorem told_fit {P x r : Int} (h1 : 1 ≤ P) (h2 : P ≤ 30) (hR : RedOk (dlC x (-P - 2 + P + 2)) (10 ^ (P + 2).toNat)) (h : ∃ d, IsIlog (P + 2).toNat (dlC x (-P - 2 + P + 2)) (10 ^ (P + 2).toNat) d ∧ r = divN d 100) : Fit 200 r := by
  obtain ⟨d, hd, rfl⟩ := h
  have := ilog_bound (Int.pow_pos (by decide)) hR hd
  exact Nat.lt_of_le_of_lt (Nat.le_trans (divN_abs d (by decide)) this) (M_fit h1 h2)
theorem told_fa {P Y r : Int} (h : ∃ d, IsIlog (P + 2).toNat (dlC (10 ^ (P + 2).toNat + Y) (-P - 2 + P + 2)) (10 ^ (P + 2).toNat) d ∧ r = divN d 100) (h1 : 1 ≤ P) (h2 : P ≤ 30) (hY : 1 ≤ Y) (hY2 : 3 * Y < 10 ^ (P + 2).toNat) : Fit 200 r :=
  told_fit h1 h2 (red03a h1 h2 hY hY2) h
theorem told_fb {P Y r : Int} (h : ∃ d, IsIlog (P + 2).toNat (dlC (10 ^ (P + 2).toNat - Y) (-P - 2 + P + 2)) (10 ^ (P + 2).toNat) d ∧ r = divN d 100) (h1 : 1 ≤ P) (h2 : P ≤ 30) (hY : 1 ≤ Y) (hY2 : 3 * Y < 10 ^ (P + 2).toNat) : Fit 200 r :=
  told_fit h1 h2 (red03b h1 h2 hY hY2) h
theorem hcP {M Y : Int} (hY : 1 ≤ Y) (hY2 : 3 * Y < M) : 0 < (if M < M + Y then M else M + Y) ∧ 256 * Y < 2 ^ 7 * (if M < M + Y then M else M + Y) := by
  rw [if_pos (by omega), show (2 : Int) ^ 7 = 128 by decide]; omega
theorem hcN {M Y : Int} (hY : 1 ≤ Y) (hY2 : 3 * Y < M) : 0 < (if M < M - Y then M else M - Y) ∧ 256 * Y < 2 ^ 7 * (if M < M - Y then M else M - Y) := by
  rw [if_neg (by omega), show (2 : Int) ^ 7 = 128 by decide]; omega
theorem e8 : (10 : Int) ^ Int.toNat 8 = 100000000 := by decide
theorem endP {P Y r g : Int} {l : List Int} (h : ∃ d, IsIlog (P + 2).toNat (dlC (10 ^ (P + 2).toNat + Y) (-P - 2 + P + 2)) (10 ^ (P + 2).toNat) d ∧ r = divN d 100)
    (hg : IsLl (10 ^ (P + 2).toNat + Y) (10 ^ (P + 2).toNat) (10 ^ (P + 2).toNat * 10 ^ Int.toNat 8) g) (hl : l.length ≤ 7) (hc : 256 * Y < 2 ^ l.length * (if (10 : Int) ^ (P + 2).toNat < 10 ^ (P + 2).toNat + Y then 10 ^ (P + 2).toNat else 10 ^ (P + 2).toNat + Y)) (h1 : 1 ≤ P) (h2 : P ≤ 30) (hY : 1 ≤ Y) (hY2 : 3 * Y < 10 ^ (P + 2).toNat) :
    ¬ g ≤ (100 * r - 50 + r.fmod 2) * 10 ^ Int.toNat 8 - 75000000 * ((l.length : Int) + 1) ∧ ¬ (100 * r + 50 - r.fmod 2) * 10 ^ Int.toNat 8 + 75000000 * ((l.length : Int) + 1) ≤ g := by
  rw [dlC_zero] at h
  rw [if_pos (by omega)] at hc
  rw [e8] at *
  obtain ⟨d, hd, e⟩ := h
  have := law03_P (p3 h1) (p32 h2) rfl hY hY2 (by rw [Int.mul_comm (10 ^ (P + 2).toNat)]; exact hc) hl hd hg
  rw [← e] at this
  rw [Int.fmod_eq_emod_of_nonneg _ (by decide)]
  omega
theorem endN {P Y r g : Int} {l : List Int} (h : ∃ d, IsIlog (P + 2).toNat (dlC (10 ^ (P + 2).toNat - Y) (-P - 2 + P + 2)) (10 ^ (P + 2).toNat) d ∧ r = divN d 100)
    (hg : IsLl (10 ^ (P + 2).toNat) (10 ^ (P + 2).toNat - Y) (10 ^ (P + 2).toNat * 10 ^ Int.toNat 8) g) (hl : l.length ≤ 7) (hc : 256 * Y < 2 ^ l.length * (if (10 : Int) ^ (P + 2).toNat < 10 ^ (P + 2).toNat - Y then 10 ^ (P + 2).toNat else 10 ^ (P + 2).toNat - Y)) (h1 : 1 ≤ P) (h2 : P ≤ 30) (hY : 1 ≤ Y) (hY2 : 3 * Y < 10 ^ (P + 2).toNat) :
    ¬ -g ≤ (100 * r - 50 + r.fmod 2) * 10 ^ Int.toNat 8 - 75000000 * ((l.length : Int) + 1) ∧ ¬ (100 * r + 50 - r.fmod 2) * 10 ^ Int.toNat 8 + 75000000 * ((l.length : Int) + 1) ≤ -g := by
  rw [dlC_zero] at h
  rw [if_neg (by omega)] at hc
  rw [e8] at *
  obtain ⟨d, hd, e⟩ := h
  have := law03_N (p3 h1) (p32 h2) rfl hY hY2 hc hl hd hg
  rw [← e] at this
  rw [Int.fmod_eq_emod_of_nonneg _ (by decide)]
  omega
end Mine

end
section
open PySem PySem.W PyProof.Rows
namespace Mine
theorem Fit.mid {x : Int} (h1 : -1000000000 ≤ x) (h2 : x ≤ 1000000000) : Fit 30 x := by
  unfold Fit; omega
theorem M_fit2 {P : Int} (h1 : 1 ≤ P) (h2 : P ≤ 30) : Fit 200 ((10 : Int) ^ (P + 2).toNat) := by
  have a := ten_big h1
  exact Fit.of_le (M_fit h1 h2) (by omega) (by omega)
theorem Y_fit {P Y : Int} (hY2 : 3 * Y < 10 ^ (P + 2).toNat) (h1 : 1 ≤ P) (h2 : P ≤ 30) (hY : 1 ≤ Y) : Fit 200 Y :=
  Fit.of_le (M_fit2 h1 h2) (by omega) (by omega)
theorem b_fitP {P Y : Int} (h1 : 1 ≤ P) (h2 : P ≤ 30) (hY : 1 ≤ Y) (hY2 : 3 * Y < 10 ^ (P + 2).toNat) : Fit 200 (if (10 : Int) ^ (P + 2).toNat < 10 ^ (P + 2).toNat + Y then 10 ^ (P + 2).toNat else 10 ^ (P + 2).toNat + Y) := by
  rw [if_pos (by omega)]; exact M_fit2 h1 h2
theorem b_fitN {P Y : Int} (h1 : 1 ≤ P) (h2 : P ≤ 30) (hY : 1 ≤ Y) (hY2 : 3 * Y < 10 ^ (P + 2).toNat) : Fit 200 (if (10 : Int) ^ (P + 2).toNat < 10 ^ (P + 2).toNat - Y then 10 ^ (P + 2).toNat else 10 ^ (P + 2).toNat - Y) := by
  rw [if_neg (by omega)]; exact Fit.of_le (M_fit2 h1 h2) (by omega) (by omega)
theorem r2_fit {r : Int} (h : Fit 200 r) : Fit 250 (100 * r - 50 + r.fmod 2) ∧ Fit 250 (100 * r + 50 - r.fmod 2) := by
  rw [Int.fmod_eq_emod_of_nonneg _ (by decide)]
  have e : (2 : Nat) ^ 250 = 2 ^ 200 * 2 ^ 50 := by rw [← Nat.pow_add]
  unfold Fit at *
  rw [e]
  generalize (2 : Nat) ^ 200 = u at *
  have : (2 : Nat) ^ 50 = 1125899906842624 := by decide +kernel
  rw [this]
  omega
theorem llFt {P : Int} (h1 : 1 ≤ P) (h2 : P ≤ 30) : Fit 1300 (4 * ((10 : Int) ^ (P + 2).toNat * 10 ^ Int.toNat 8) + 4) := by
  have h : Fit 1000 (20 * ((10 : Int) ^ (P + 2).toNat + 1) * 1000000000) := Fit.mono (Fit.mul (M_fit h1 h2) (Fit.mid (by decide) (by decide))) (by decide)
  have a := ten_big h1
  rw [e8]
  exact Fit.mono (Fit.of_le h (by omega) (by omega)) (by decide)
theorem llAt1 {P Y : Int} (h1 : 1 ≤ P) (h2 : P ≤ 30) (hY : 1 ≤ Y) (hY2 : 3 * Y < 10 ^ (P + 2).toNat) : Fit 1200 (2 * ((10 : Int) ^ (P + 2).toNat + Y)) :=
  Fit.mono (Fit.of_le (M_fit h1 h2) (by omega) (by omega)) (by decide)
theorem llAt2 {P : Int} (h1 : 1 ≤ P) (h2 : P ≤ 30) : Fit 1200 (2 * (10 : Int) ^ (P + 2).toNat) := by
  have a := ten_big h1
  exact Fit.mono (Fit.of_le (M_fit h1 h2) (by omega) (by omega)) (by decide)
theorem llUt {P : Int} : 0 < (10 : Int) ^ (P + 2).toNat * 10 ^ Int.toNat 8 := Int.mul_pos (Int.pow_pos (by decide)) (Int.pow_pos (by decide))
theorem f8 {D : Int} : (D.fmod 8).toNat ≤ 100 := by
  have := fmod_rng (D := D) (b := 8) (by decide)
  omega
end Mine

end
open_top hd for PySem.Challenge.rw_dm0271_03
namespace Mine
section
abbrev CI (w : World) (mean : ExcName → Option Value) (mg mb : Str → Option Value) (d : Nat) (f : Addr) (vs : List Value) (P : Int → Prop) : Prop :=
  ConI PySem.Challenge.rw_dm0271_03.row.prog w (hd.heap_39 w.params) hd.view_39 (looseW hd.view_39 [Str.ofString "_ilog", Str.ofString "_log10_digits"]) mean mg mb d f vs P
abbrev CX (w : World) (mean : ExcName → Option Value) (mg mb : Str → Option Value) (d : Nat) (f : Addr) (vs : List Value) (r : Int) : Prop :=
  ConX PySem.Challenge.rw_dm0271_03.row.prog w (hd.heap_39 w.params) hd.view_39 (looseW hd.view_39 [Str.ofString "_ilog", Str.ofString "_log10_digits"]) mean mg mb d f vs r
local macro_rules | `(tactic| walk_at "call builtin:divmod") => `(tactic| ((with_reducible show wpAny _ _ (call (Value.builtin _) [Value.int _ _, Value.int _ _]) _ _ _); refine divmod_N (by assumption) (by assumption) (by omega) ?_ (Or.inl (Fit.noPylong (by assumption) (by decide))); intro _ _ _))
local macro_rules | `(tactic| walk_at "binaryOp FloorDiv int int") => `(tactic| ((with_reducible show wpAny _ _ (binaryOp Operator.FloorDiv (Value.int _ _) (Value.int _ _)) _ _ _); (refine floordiv_int ?m1 ?_ (Or.inl (Fit.noPylong (n := 9000) ?m2 (by decide))); (case m1 => omega); (case m2 => first | assumption | k_extra "fit"))))
theorem con_div (w : World) (mean) (mg mb) (a b : Int) (ta tb : Tok) (hb : 0 < b) (hf : Fit 9000 b) : CX w mean mg mb 1 35 [.int a ta, .int b tb] (divN a b) := by
  unfold CX ConX
  k_fill
  intros; rename_i hret
  refine wpAny_call ?_
  w_on
  k_with_none
  k_dflt cell_enter
  k_steps
  · exact con_retX hret (divN_walk hb) (by assumption) (by assumption) (by intro p hp; simp [hp])
theorem con_rsh (w : World) (mean) (mg mb) (x n : Int) (tx tn : Tok) (hn : 0 ≤ n) (hn2 : n ≤ 100) : CX w mean mg mb 1 28 [.int x tx, .int n tn] (divN x (2 ^ n.toNat)) := by
  unfold CX ConX
  k_fill
  intros; rename_i hret
  refine wpAny_call ?_
  w_on
  k_with_none
  k_dflt cell_enter
  k_steps
  · exact con_retX hret rshN_walk (by assumption) (by assumption) (by intro p hp; simp [hp])
theorem con_sq (w : World) (mean) (mg mb) (n z : Int) (tn tz : Tok) (hn : 0 < n) (hz : 0 < z) (hf : Fit 9000 (z + n)) : CI w mean mg mb 1 21 [.int n tn, .int z tz] (IsSq n) := by
  unfold CI ConI
  k_fill
  intros; rename_i hret
  refine wpAny_call ?_
  w_on
  k_with_none
  k_dflt cell_enter
  k_with "exec While Compare cons nil" => k_while (fun _ b a => 0 < a ∧ a ≤ z + n ∧ (b = 0 ∨ (0 < b ∧ a = sqStep n b))) (fun _ b a => sqMeas n b a) "b" "a"
  k_with "state" => exact sq_turn hn hz (by assumption) (by assumption)
  k_with "measure" => exact sq_meas hn (by assumption) (by assumption)
  k_with "fit" => exact Fit.of_le hf (by omega) (by omega)
  k_steps
  · exact con_retI hret (sq_out (by assumption) (by assumption) (by assumption)) (by assumption) (by assumption) (by intro p hp; simp [hp])

end
section
local macro_rules | `(tactic| walk_at "binaryOp FloorDiv int int") => `(tactic| ((with_reducible show wpAny _ _ (binaryOp Operator.FloorDiv (Value.int _ _) (Value.int _ _)) _ _ _); (refine floordiv_int ?m1 ?_ (Or.inl (Fit.noPylong (n := 9000) ?m2 (by decide))); (case m1 => first | omega | k_extra "ne"); (case m2 => first | assumption | k_extra "fit"))))
local macro_rules | `(tactic| walk_at "binaryOp Mult int int") => `(tactic| ((with_reducible show wpAny _ _ (binaryOp Operator.Mult (Value.int _ _) (Value.int _ _)) _ _ _); (with_reducible refine mul_int ?_ ?m1); (case m1 => k_extra "mul")))
local macro_rules | `(tactic| walk_at "binaryOp LShift int int") => `(tactic| ((with_reducible show wpAny _ _ (binaryOp Operator.LShift (Value.int _ _) (Value.int _ _)) _ _ _); (with_reducible refine lshift_int ?m1 ?m2 ?_); (case m1 => omega); (case m2 => k_extra "shl")))
local macro_rules | `(tactic| walk_at "call type:str") => `(tactic| ((with_reducible show wpAny _ _ (call (Value.type "str") [Value.int _ _]) _ _ _); (refine P.str_of_int ?m1 ?_); (case m1 => k_extra "str")))
local macro_rules | `(tactic| walk_at "call builtin:len") => `(tactic| ((with_reducible show wpAny _ _ (call (Value.builtin "len") [Value.str _ _]) _ _ _); (refine P.len_str ?m1 ?_); (case m1 => k_extra "len")))
local macro_rules | `(tactic| walk_at "call ref") => `(tactic| (k_here; k_dflt (first
  | (refine' con_div _ _ _ _ _ _ _ _ ?p1 ?p2 _ _ _ _ _ _ _ _ _ _ _ _ _ _ _ _ _ _ ?k1 ?k2 ?k3 ?k4 ?k5 ?kK ?kd ?ku ?_; (case p1 => first | omega | k_extra "pos"); (case p2 => first | assumption | k_extra "fit"); (case k1 => k_asm); (case k2 => k_asm); (case k3 => k_asm); (case k4 => k_asm); (case k5 => k_asm); (case kK => first | exact rfl | assumption); (case kd => ktr_room); (case ku => ktr_units); intro t9 h9 tk9 F9 N9; (try dsimp only); (try k_fold))
  | (refine' con_rsh _ _ _ _ _ _ _ _ ?p1 ?p2 _ _ _ _ _ _ _ _ _ _ _ _ _ _ _ _ _ _ ?k1 ?k2 ?k3 ?k4 ?k5 ?kK ?kd ?ku ?_; (case p1 => omega); (case p2 => omega); (case k1 => k_asm); (case k2 => k_asm); (case k3 => k_asm); (case k4 => k_asm); (case k5 => k_asm); (case kK => first | exact rfl | assumption); (case kd => ktr_room); (case ku => ktr_units); intro t9 h9 tk9 F9 N9; (try dsimp only); (try k_fold))
  | (refine' con_sq _ _ _ _ _ _ _ _ ?p1 ?p2 ?p3 _ _ _ _ _ _ _ _ _ _ _ _ _ _ _ _ _ _ ?k1 ?k2 ?k3 ?k4 ?k5 ?kK ?kd ?ku ?_; (case p1 => first | omega | k_extra "pos"); (case p2 => first | omega | k_extra "pos"); (case p3 => first | assumption | k_extra "fit"); (case k1 => k_asm); (case k2 => k_asm); (case k3 => k_asm); (case k4 => k_asm); (case k5 => k_asm); (case kK => first | exact rfl | assumption); (case kd => ktr_room); (case ku => ktr_units); intro r9 t9 h9 tk9 P9 F9 N9; (try dsimp only); (try k_fold)))))

local macro_rules | `(tactic| cell_enter) => `(tactic| (refine' code_def ?k1 ?k2 ?k3 ?k4 ?k5 ?kA ?kF ?kK ?k6 ?k7 ?k8 ?k9 ?kB ?_ ?c2 ?c3 ?c4 ?c5; (case kA => exact rfl); (case kF => exact rfl); (case kK => assumption); (case k1 => k_asm); (case k2 => k_asm); (case k3 => k_asm); (case k4 => k_asm); (case k5 => k_asm); (case k6 => k_is); (case k7 => k_is); (case k8 => ktr_room); (case k9 => first | exact BindsTo.of_eq rfl | exact binds_K (by k_in) rfl (by k_is) rfl rfl rfl); (case c5 => decide); (case kB => exact locs rfl); (case c2 => exact rfl); (case c3 => exact rfl); (case c4 => exact rfl); k_whole; intro g' L' h' FG' F' N' B' X' T'; (try dsimp only); (try k_lift B'); (try k_fold)))
local macro_rules | `(tactic| walk_at "exec While") => `(tactic| k_extra "my while")
theorem con_ilog (w : World) (mean) (mg mb) (p : Nat) (x M : Int) (tx tM : Tok) (hM : M = 10 ^ p) (hp : p ≤ 1000) (hM0 : 0 < M) (hMf : Fit 1500 (20 * M))
   (hR : RedOk x M) : CI w mean mg mb 2 43 [.int x tx, .int M tM] (IsIlog p x M) := by
  unfold CI ConI
  k_fill
  intros; rename_i hret
  refine wpAny_call ?_
  w_on
  k_with_none
  k_dflt cell_enter
  k_with "my while" => k_while (fun _ y R => 0 ≤ R ∧ R ≤ 14 ∧ -(10 * M) ≤ y ∧ y ≤ 10 * M ∧ 0 < M + divN y (2 ^ R.toNat) ∧ RedTo x M R.toNat y) (fun _ y R => (20 - R).toNat) "y" "R"
  k_with "fit0" => first | assumption | exact Fit.of_le hMf (by omega) (by omega) | (with_reducible refine' Fit.sq ?fa ?fb; (case fb => assumption); (case fa => k_extra "fit0")) | (with_reducible refine' Fit.divN ?fa ?fb; (case fb => exact Int.pow_pos (by decide)); (case fa => k_extra "fit0")) | (with_reducible refine' Fit.add ?fa ?fb; (case fa => k_extra "fit0"); (case fb => k_extra "fit0")) | (with_reducible refine' Fit.mul ?fa ?fb; (case fa => k_extra "fit0"); (case fb => k_extra "fit0")) | (with_reducible refine' Fit.abs ?fa; (case fa => k_extra "fit0")) | exact Fit.small (by omega) (by omega)
  k_with "fit" => first | exact Fit.mono (T_fit hM hp) (by decide) | (refine' Fit.mono ?fx ?fy; (case fx => k_extra "fit0"); (case fy => decide))
  k_with "mul" => (refine' Fit.mulOk ?a ?b ?c; (case a => k_extra "fit0"); (case b => k_extra "fit0"); (case c => decide))
  k_with "shl" => (refine' Fit.shl ?a ?b ?c; (case a => k_extra "fit0"); (case b => omega); (case c => decide))
  k_with "str" => exact Fit.log2 (n := 1500) (Fit.of_le hMf (by omega) (by omega)) (by decide) (by decide)
  k_with "len" => exact Fit.len (n := 1500) (Fit.of_le hMf (by omega) (by omega)) (by decide) (by decide)
  k_with "pos" => first | exact T_pos hM | exact Int.mul_pos hM0 (by assumption) | exact Int.add_pos hM0 (IsSq.pos (by assumption))
  k_with "pyIter ref" => k_state_given ["yshift", "w!"] (fun ys w0 pre w => w = horn M ys w0 pre ∧ -(2 * M + 2) ≤ w ∧ w ≤ 2 * M + 2 ∧ -M ≤ 2 * ys ∧ 2 * ys ≤ M) "w"
  k_with "state" => first | exact hs_start hM0 (T_pos hM) (Int.not_le.mp (mt (cond1 (by omega) (by omega)).mpr (by assumption))) | exact hs_start hM0 (T_pos hM) (Int.not_le.mp (mt (cond2 (by omega)).mpr (by assumption))) |  exact il_start hR | exact il_turn hR (by omega) (by assumption) ((cond1 (by omega) (by omega)).mp (by assumption)) (by assumption) | exact hs_turn hM0 (by omega) (by assumption) (by assumption) (by assumption) (by assumption) (by assumption) | exact il_turn hR (by omega) (by assumption) ((cond2 (by omega)).mp (by assumption)) (by assumption)
  have hT0 := T_pos hM
  have hT1 := T_hi hM hp
  k_steps
  · exact con_retI hret (il_end hM (by assumption) (Int.not_le.mp (mt (cond1 (by omega) (by omega)).mpr (by assumption))) (by assumption)) (by assumption) (by assumption) (by intro p hp; simp [hp])
  · exact con_retI hret (il_end hM (by assumption) (Int.not_le.mp (mt (cond2 (by omega)).mpr (by assumption))) (by assumption)) (by assumption) (by assumption) (by intro p hp; simp [hp])

end
section
local macro_rules | `(tactic| walk_at "binaryOp FloorDiv int int") => `(tactic| ((with_reducible show wpAny _ _ (binaryOp Operator.FloorDiv (Value.int _ _) (Value.int _ _)) _ _ _); (refine floordiv_int ?m1 ?_ (Or.inl (Fit.noPylong (n := 9000) ?m2 (by decide))); (case m1 => first | omega | k_extra "ne"); (case m2 => first | assumption | k_extra "fit"))))
local macro_rules | `(tactic| walk_at "binaryOp Mult int int") => `(tactic| ((with_reducible show wpAny _ _ (binaryOp Operator.Mult (Value.int _ _) (Value.int _ _)) _ _ _); (with_reducible refine mul_int ?_ ?m1); (case m1 => k_extra "mul")))
local macro_rules | `(tactic| walk_at "binaryOp LShift int int") => `(tactic| ((with_reducible show wpAny _ _ (binaryOp Operator.LShift (Value.int _ _) (Value.int _ _)) _ _ _); (with_reducible refine lshift_int ?m1 ?m2 ?_); (case m1 => omega); (case m2 => k_extra "shl")))
local macro_rules | `(tactic| walk_at "call type:str") => `(tactic| ((with_reducible show wpAny _ _ (call (Value.type "str") [Value.int _ _]) _ _ _); (refine P.str_of_int ?m1 ?_); (case m1 => k_extra "str")))
local macro_rules | `(tactic| walk_at "call builtin:len") => `(tactic| ((with_reducible show wpAny _ _ (call (Value.builtin "len") [Value.str _ _]) _ _ _); (refine P.len_str ?m1 ?_); (case m1 => k_extra "len")))
local macro_rules | `(tactic| walk_at "call ref") => `(tactic| (k_here; k_dflt (first
  | (refine' con_div _ _ _ _ _ _ _ _ ?p1 ?p2 _ _ _ _ _ _ _ _ _ _ _ _ _ _ _ _ _ _ ?k1 ?k2 ?k3 ?k4 ?k5 ?kK ?kd ?ku ?_; (case p1 => first | omega | k_extra "pos"); (case p2 => first | assumption | k_extra "fit"); (case k1 => k_asm); (case k2 => k_asm); (case k3 => k_asm); (case k4 => k_asm); (case k5 => k_asm); (case kK => first | exact rfl | assumption); (case kd => ktr_room); (case ku => ktr_units); intro t9 h9 tk9 F9 N9; (try dsimp only); (try k_fold))
  | (refine' con_rsh _ _ _ _ _ _ _ _ ?p1 ?p2 _ _ _ _ _ _ _ _ _ _ _ _ _ _ _ _ _ _ ?k1 ?k2 ?k3 ?k4 ?k5 ?kK ?kd ?ku ?_; (case p1 => omega); (case p2 => omega); (case k1 => k_asm); (case k2 => k_asm); (case k3 => k_asm); (case k4 => k_asm); (case k5 => k_asm); (case kK => first | exact rfl | assumption); (case kd => ktr_room); (case ku => ktr_units); intro t9 h9 tk9 F9 N9; (try dsimp only); (try k_fold))
  | (refine' con_sq _ _ _ _ _ _ _ _ ?p1 ?p2 ?p3 _ _ _ _ _ _ _ _ _ _ _ _ _ _ _ _ _ _ ?k1 ?k2 ?k3 ?k4 ?k5 ?kK ?kd ?ku ?_; (case p1 => first | omega | k_extra "pos"); (case p2 => first | omega | k_extra "pos"); (case p3 => first | assumption | k_extra "fit"); (case k1 => k_asm); (case k2 => k_asm); (case k3 => k_asm); (case k4 => k_asm); (case k5 => k_asm); (case kK => first | exact rfl | assumption); (case kd => ktr_room); (case ku => ktr_units); intro r9 t9 h9 tk9 P9 F9 N9; (try dsimp only); (try k_fold)))))

local macro_rules | `(tactic| walk_at "call ref") => `(tactic| (k_here; k_dflt (
   (refine' con_ilog _ _ _ _ _ _ _ _ _ ?p1 ?p2 ?p3 ?p4 ?p5 _ _ _ _ _ _ _ _ _ _ _ _ _ _ _ _ _ _ ?k1 ?k2 ?k3 ?k4 ?k5 ?kK ?kd ?ku ?_; (case p1 => k_extra "ilM"); (case p2 => k_extra "ilp"); (case p3 => k_extra "il0"); (case p4 => k_extra "ilF"); (case p5 => k_extra "ilR"); (case k1 => k_asm); (case k2 => k_asm); (case k3 => k_asm); (case k4 => k_asm); (case k5 => k_asm); (case kK => first | exact rfl | assumption); (case kd => ktr_room); (case ku => ktr_units); intro r9 t9 h9 tk9 P9 F9 N9; (try dsimp only); (try k_fold)))))

local macro_rules | `(tactic| walk_at "storeName") => `(tactic| k_extra "norm")
local macro_rules | `(tactic| walk_at "inplaceOp Mult int int") => `(tactic| ((with_reducible show wpAny _ _ (inplaceOp Operator.Mult (Value.int _ _) (Value.int _ _)) _ _ _); (with_reducible refine imul_int ?_ ?m1); (case m1 => k_extra "mul")))
theorem con_dlog (w : World) (mean) (mg mb) (n : Nat) (c e p : Int) (tc te tp : Tok) (hn : p + 2 = n) (hn0 : 0 < n) (hn1 : n ≤ 200) (hc : Fit 1100 c) (he : -200 ≤ e ∧ e ≤ 50) (hl : e + nd c = 0 ∨ e + nd c = 1) (hR : RedOk (dlC c (e + p + 2)) (10 ^ n)) : CI w mean mg mb 3 50 [.int c tc, .int e te, .int p tp] (fun r => ∃ d, IsIlog n (dlC c (e + p + 2)) (10 ^ n) d ∧ r = divN d 100) := by
  unfold CI ConI
  k_fill
  intros; rename_i hret
  refine wpAny_call ?_
  w_on
  k_with_none
  k_dflt cell_enter
  obtain ⟨K, hK⟩ : ∃ K, K = e + p + 2 := ⟨_, rfl⟩
  rw [← hK] at hR hret
  have hk : e + (n : Int) - 0 = K := by omega
  have hf := f_zero hl
  unfold nd at hf
  k_with "norm" => first | rw [hf] | rw [hk] | rw [hn]
  k_with "str" => exact Fit.log2 hc (by decide) (by decide)
  k_with "len" => exact Fit.len hc (by decide) (by decide)
  k_with "mul" => exact Fit.mulOk hc (Fit.ten rfl (by omega)) (by decide)
  k_with "pos" => exact Int.pow_pos (by decide)
  k_with "fit" => first | exact Fit.mono (Fit.ten rfl (by omega)) (by decide) | exact Fit.mono (Fit.small (by decide) (by decide)) (by decide)
  k_with "ilM" => exact ten_nat n
  k_with "ilp" => omega
  k_with "il0" => exact Int.pow_pos (by decide)
  k_with "ilF" => exact ten_fit hn1
  k_with "ilR" => first | exact ilR1 (by omega) hR | exact ilR2 (by omega) hR
  k_steps
  · exact con_retI hret (dl_end1 (by omega) (by assumption) rfl) (by assumption) (by assumption) (by intro p hp; simp [hp])
  · exact con_retI hret (dl_end2 (by omega) (by assumption) rfl) (by assumption) (by assumption) (by intro p hp; simp [hp])

end
section
local macro_rules | `(tactic| walk_at "binaryOp FloorDiv int int") => `(tactic| ((with_reducible show wpAny _ _ (binaryOp Operator.FloorDiv (Value.int _ _) (Value.int _ _)) _ _ _); (refine floordiv_int ?m1 ?_ (Or.inl (Fit.noPylong (n := 9000) ?m2 (by decide))); (case m1 => first | omega | k_extra "ne"); (case m2 => first | assumption | k_extra "fit"))))
local macro_rules | `(tactic| walk_at "binaryOp Mult int int") => `(tactic| ((with_reducible show wpAny _ _ (binaryOp Operator.Mult (Value.int _ _) (Value.int _ _)) _ _ _); (with_reducible refine mul_int ?_ ?m1); (case m1 => k_extra "mul")))
local macro_rules | `(tactic| walk_at "binaryOp LShift int int") => `(tactic| ((with_reducible show wpAny _ _ (binaryOp Operator.LShift (Value.int _ _) (Value.int _ _)) _ _ _); (with_reducible refine lshift_int ?m1 ?m2 ?_); (case m1 => omega); (case m2 => k_extra "shl")))
local macro_rules | `(tactic| walk_at "call type:str") => `(tactic| ((with_reducible show wpAny _ _ (call (Value.type "str") [Value.int _ _]) _ _ _); (refine P.str_of_int ?m1 ?_); (case m1 => k_extra "str")))
local macro_rules | `(tactic| walk_at "call builtin:len") => `(tactic| ((with_reducible show wpAny _ _ (call (Value.builtin "len") [Value.str _ _]) _ _ _); (refine P.len_str ?m1 ?_); (case m1 => k_extra "len")))
local macro_rules | `(tactic| walk_at "call ref") => `(tactic| (k_here; k_dflt (first
  | (refine' con_div _ _ _ _ _ _ _ _ ?p1 ?p2 _ _ _ _ _ _ _ _ _ _ _ _ _ _ _ _ _ _ ?k1 ?k2 ?k3 ?k4 ?k5 ?kK ?kd ?ku ?_; (case p1 => first | omega | k_extra "pos"); (case p2 => first | assumption | k_extra "fit"); (case k1 => k_asm); (case k2 => k_asm); (case k3 => k_asm); (case k4 => k_asm); (case k5 => k_asm); (case kK => first | exact rfl | assumption); (case kd => ktr_room); (case ku => ktr_units); intro t9 h9 tk9 F9 N9; (try dsimp only); (try k_fold))
  | (refine' con_rsh _ _ _ _ _ _ _ _ ?p1 ?p2 _ _ _ _ _ _ _ _ _ _ _ _ _ _ _ _ _ _ ?k1 ?k2 ?k3 ?k4 ?k5 ?kK ?kd ?ku ?_; (case p1 => omega); (case p2 => omega); (case k1 => k_asm); (case k2 => k_asm); (case k3 => k_asm); (case k4 => k_asm); (case k5 => k_asm); (case kK => first | exact rfl | assumption); (case kd => ktr_room); (case ku => ktr_units); intro t9 h9 tk9 F9 N9; (try dsimp only); (try k_fold))
  | (refine' con_sq _ _ _ _ _ _ _ _ ?p1 ?p2 ?p3 _ _ _ _ _ _ _ _ _ _ _ _ _ _ _ _ _ _ ?k1 ?k2 ?k3 ?k4 ?k5 ?kK ?kd ?ku ?_; (case p1 => first | omega | k_extra "pos"); (case p2 => first | omega | k_extra "pos"); (case p3 => first | assumption | k_extra "fit"); (case k1 => k_asm); (case k2 => k_asm); (case k3 => k_asm); (case k4 => k_asm); (case k5 => k_asm); (case kK => first | exact rfl | assumption); (case kd => ktr_room); (case ku => ktr_units); intro r9 t9 h9 tk9 P9 F9 N9; (try dsimp only); (try k_fold)))))

local macro_rules | `(tactic| walk_at "binaryOp Pow int int") => `(tactic| ((with_reducible show wpAny _ _ (binaryOp Operator.Pow (Value.int _ _) (Value.int _ _)) _ _ _); (with_reducible refine pow_int ?m1 ?m2 ?_); (case m1 => omega); (case m2 => k_extra "pow")))

theorem con_ll (w : World) (mean) (mg mb) (a b u : Int) (ta tb tu : Tok) (hb : 0 < b) (hab : b < a) (hu : 0 < u) (hF : Fit 1300 (4 * u + 4)) (hFa : Fit 1200 (2 * a)) : CI w mean mg mb 1 89 [.int a ta, .int b tb, .int u tu] (IsLl a b u) := by
  unfold CI ConI
  k_fill
  intros; rename_i hret
  refine wpAny_call ?_
  w_on
  k_with_none
  k_dflt cell_enter
  k_with "exec While Compare cons nil" => k_while (fun _ power k total => 0 < k ∧ 0 ≤ power ∧ power ≤ 2 * u ∧ k + 2 * power ≤ 4 * u + 1 ∧ LlAt a b u power k total) (fun _ power k total => power.toNat) "power" "k" "total"
  k_with "fit0" => first | assumption | exact Fit.of_le hF (by omega) (by omega) | exact Fit.of_le hFa (by omega) (by omega) | (with_reducible refine' Fit.pow2 ?fa; (case fa => k_extra "fit0"))
  k_with "fit" => (refine' Fit.mono ?fx ?fy; (case fx => k_extra "fit0"); (case fy => decide))
  k_with "ne" => exact Int.ne_of_gt (Int.pow_pos (by omega))
  k_with "mul" => (refine' Fit.mulOk ?a ?b ?c; (case a => k_extra "fit0"); (case b => k_extra "fit0"); (case c => decide))
  k_with "pow" => (refine' Fit.powOk ?a ?b ?c; (case a => k_extra "fit0"); (case b => decide); (case c => decide))
  k_with "state" => first | exact ll_start hb hab hu | exact ll_turn hb hab hu (by assumption) (by assumption) (by assumption) (by assumption) (by assumption)
  k_with "measure" => exact ll_meas hb hab (by assumption)
  k_steps
  · exact con_retI hret (ll_out (by assumption) (by assumption)) (by assumption) (by assumption) (by intro p hp; simp [hp])

end
section
local macro_rules | `(tactic| walk_at "binaryOp FloorDiv int int") => `(tactic| ((with_reducible show wpAny _ _ (binaryOp Operator.FloorDiv (Value.int _ _) (Value.int _ _)) _ _ _); (refine floordiv_int ?m1 ?_ (Or.inl (Fit.noPylong (n := 9000) ?m2 (by decide))); (case m1 => first | omega | k_extra "ne"); (case m2 => first | assumption | k_extra "fit"))))
local macro_rules | `(tactic| walk_at "binaryOp Mult int int") => `(tactic| ((with_reducible show wpAny _ _ (binaryOp Operator.Mult (Value.int _ _) (Value.int _ _)) _ _ _); (with_reducible refine mul_int ?_ ?m1); (case m1 => k_extra "mul")))
local macro_rules | `(tactic| walk_at "binaryOp LShift int int") => `(tactic| ((with_reducible show wpAny _ _ (binaryOp Operator.LShift (Value.int _ _) (Value.int _ _)) _ _ _); (with_reducible refine lshift_int ?m1 ?m2 ?_); (case m1 => omega); (case m2 => k_extra "shl")))
local macro_rules | `(tactic| walk_at "call type:str") => `(tactic| ((with_reducible show wpAny _ _ (call (Value.type "str") [Value.int _ _]) _ _ _); (refine P.str_of_int ?m1 ?_); (case m1 => k_extra "str")))
local macro_rules | `(tactic| walk_at "call builtin:len") => `(tactic| ((with_reducible show wpAny _ _ (call (Value.builtin "len") [Value.str _ _]) _ _ _); (refine P.len_str ?m1 ?_); (case m1 => k_extra "len")))
local macro_rules | `(tactic| walk_at "call ref") => `(tactic| (k_here; k_dflt (first
  | (refine' con_div _ _ _ _ _ _ _ _ ?p1 ?p2 _ _ _ _ _ _ _ _ _ _ _ _ _ _ _ _ _ _ ?k1 ?k2 ?k3 ?k4 ?k5 ?kK ?kd ?ku ?_; (case p1 => first | omega | k_extra "pos"); (case p2 => first | assumption | k_extra "fit"); (case k1 => k_asm); (case k2 => k_asm); (case k3 => k_asm); (case k4 => k_asm); (case k5 => k_asm); (case kK => first | exact rfl | assumption); (case kd => ktr_room); (case ku => ktr_units); intro t9 h9 tk9 F9 N9; (try dsimp only); (try k_fold))
  | (refine' con_rsh _ _ _ _ _ _ _ _ ?p1 ?p2 _ _ _ _ _ _ _ _ _ _ _ _ _ _ _ _ _ _ ?k1 ?k2 ?k3 ?k4 ?k5 ?kK ?kd ?ku ?_; (case p1 => omega); (case p2 => omega); (case k1 => k_asm); (case k2 => k_asm); (case k3 => k_asm); (case k4 => k_asm); (case k5 => k_asm); (case kK => first | exact rfl | assumption); (case kd => ktr_room); (case ku => ktr_units); intro t9 h9 tk9 F9 N9; (try dsimp only); (try k_fold))
  | (refine' con_sq _ _ _ _ _ _ _ _ ?p1 ?p2 ?p3 _ _ _ _ _ _ _ _ _ _ _ _ _ _ _ _ _ _ ?k1 ?k2 ?k3 ?k4 ?k5 ?kK ?kd ?ku ?_; (case p1 => first | omega | k_extra "pos"); (case p2 => first | omega | k_extra "pos"); (case p3 => first | assumption | k_extra "fit"); (case k1 => k_asm); (case k2 => k_asm); (case k3 => k_asm); (case k4 => k_asm); (case k5 => k_asm); (case kK => first | exact rfl | assumption); (case kd => ktr_room); (case ku => ktr_units); intro r9 t9 h9 tk9 P9 F9 N9; (try dsimp only); (try k_fold)))))

local macro_rules | `(tactic| walk_at "binaryOp Pow int int") => `(tactic| ((with_reducible show wpAny _ _ (binaryOp Operator.Pow (Value.int _ _) (Value.int _ _)) _ _ _); (with_reducible refine pow_int ?m1 ?m2 ?_); (case m1 => omega); (case m2 => k_extra "pow")))

local macro_rules | `(tactic| walk_at "binaryOp Mod int int") => `(tactic| ((with_reducible show wpAny _ _ (binaryOp Operator.Mod (Value.int _ _) (Value.int _ _)) _ _ _); (refine mod_int' ?m1 ?_; (case m1 => first | omega | k_extra "ne"))))
local macro_rules | `(tactic| walk_at "call ref") => `(tactic| (k_here; k_dflt (first
   | (refine' con_dlog _ _ _ _ _ _ _ _ _ _ _ ?p1 ?p2 ?p3 ?p4 ?p5 ?p6 ?p7 _ _ _ _ _ _ _ _ _ _ _ _ _ _ _ _ _ _ ?k1 ?k2 ?k3 ?k4 ?k5 ?kK ?kd ?ku ?_; (case p1 => k_extra "dl1"); (case p2 => k_extra "dl2"); (case p3 => k_extra "dl3"); (case p4 => k_extra "dl4"); (case p5 => k_extra "dl5"); (case p6 => k_extra "dl6"); (case p7 => k_extra "dl7"); (case k1 => k_asm); (case k2 => k_asm); (case k3 => k_asm); (case k4 => k_asm); (case k5 => k_asm); (case kK => first | exact rfl | assumption); (case kd => ktr_room); (case ku => ktr_units); intro r9 t9 h9 tk9 P9 F9 N9; (try dsimp only); (try k_fold))
   | (refine' con_ll _ _ _ _ _ _ _ _ _ _ ?p1 ?p2 ?p3 ?p4 ?p5 _ _ _ _ _ _ _ _ _ _ _ _ _ _ _ _ _ _ ?k1 ?k2 ?k3 ?k4 ?k5 ?kK ?kd ?ku ?_; (case p1 => k_extra "ll1"); (case p2 => k_extra "ll2"); (case p3 => k_extra "ll3"); (case p4 => k_extra "ll4"); (case p5 => k_extra "ll5"); (case k1 => k_asm); (case k2 => k_asm); (case k3 => k_asm); (case k4 => k_asm); (case k5 => k_asm); (case kK => first | exact rfl | assumption); (case kd => ktr_room); (case ku => ktr_units); intro r9 t9 h9 tk9 P9 F9 N9; (try dsimp only); (try k_fold)))))

local macro_rules | `(tactic| walk_at "execs cons") => `(tactic| ((try dsimp only); with_reducible refine tk_drop ?_; intro tk9))
local macro_rules | `(tactic| walk_at "storeName") => `(tactic| ((try dsimp only); with_reducible refine st_drop ?_; intro tt9))

local macro_rules | `(tactic| walk_at "storeName") => `(tactic| first | (with_reducible refine st_p ?_; intro P9 hPa9 hPb9) | (with_reducible refine st_top (by assumption) ?_; intro T9 hTa9 hTb9) | (with_reducible refine st_y (by assumption) (by assumption) ?_; intro Y9 hYa9 hYb9))

local macro_rules | `(tactic| walk_at "subscriptTail List") => `(tactic| (k_here; (with_reducible show wpAny _ _ (subscriptTail (PySem.Expr.List [_, _, _] _) (PySem.Expr.Slice _ none none _) (Value.ref _) (Value.ref _)) _ _ _); k_dflt (refine kba_turn (value' := PySem.Expr.Name (PySem.Str.ofString "_") ⟨0, 0, 0, 0⟩) (fun _ => rfl) ?_); k_dflt (refine' kmk_slice_ints ?F ?N ?l ?p ?q ?i ?m ?c ?_ ?s ?t ?z; (case F => k_asm); (case N => k_asm); (case l => kmk_list); (case p => kmk_part); (case q => kmk_part); (case i => exact IntsAre.cons _ _ (IntsAre.cons _ _ (IntsAre.cons _ _ IntsAre.nil))); (case m => exact kmk_from (IntsAre.cons _ _ (IntsAre.cons _ _ (IntsAre.cons _ _ IntsAre.nil))) (by omega)); (case c => kmk_len); (case s => with_unfolding_all rfl); (case t => kmk_pure); (case z => kmk_size)); intro D' ws' h' F' N' l1 hI' hC' hL'; (try k_lt l1); (try k_sweep)))
local macro_rules | `(tactic| walk_at "binaryOp Add ref ref") => `(tactic| (k_here; (with_reducible show wpAny _ _ (binaryOp _ (Value.ref _) (Value.ref _)) _ _ _); k_dflt (refine' add_draw ?F ?N ?a ?b ?i ?j ?_; (case F => k_asm); (case N => k_asm); (case a => kmk_list); (case b => kmk_list); (case i => assumption); (case j => assumption)); intro D' x' y' z' t' u' v' h' F' N' l1; (try k_lt l1); (try k_sweep)))

local macro_rules | `(tactic| walk_at "CompSrcT") => `(tactic| (k_here; k_dflt (refine LCt.CompSrcT.range (n := 8) (by rfl) (by k_asm) (by k_asm) (by assumption) (by decide) (by rfl) (by exact Nat.le_of_ble_eq_true rfl) ?_; intro g'; (refine' hc_range (fun k' t' I' oI' C' oC' D' m' ys' h' tk' E' hlo' hhi' hC' hx' F' N' off' ne' => ?_) ?_); kcf_last)))
local macro_rules | `(tactic| walk_at "CompEnd") => `(tactic| first
  | (refine hc_yes (by assumption) (by assumption) (by kcf_all) (by assumption) (by assumption))
  | (refine hc_no (by assumption) (by assumption) (by kcf_all) (by assumption) (by assumption)))
local macro_rules | `(tactic| walk_at "HcFin") => `(tactic| (refine And.intro ?hc ?_; (case hc => k_extra "hc"); intro ys' l' hI' hl' hc'))

local macro_rules | `(tactic| walk_at "ite") => `(tactic| first
  | (refine split_dec (fun h9 => absurd h9 (endP (by assumption) (by assumption) (by assumption) (by assumption) (by assumption) (by assumption) (by assumption) (by assumption)).1) ?_; intro hz9; clear hz9; (try k_fold))
  | (refine split_dec (fun h9 => absurd h9 (endP (by assumption) (by assumption) (by assumption) (by assumption) (by assumption) (by assumption) (by assumption) (by assumption)).2) ?_; intro hz9; clear hz9; (try k_fold))
  | (refine split_dec (fun h9 => absurd h9 (endN (by assumption) (by assumption) (by assumption) (by assumption) (by assumption) (by assumption) (by assumption) (by assumption)).1) ?_; intro hz9; clear hz9; (try k_fold))
  | (refine split_dec (fun h9 => absurd h9 (endN (by assumption) (by assumption) (by assumption) (by assumption) (by assumption) (by assumption) (by assumption) (by assumption)).2) ?_; intro hz9; clear hz9; (try k_fold)))

local macro_rules | `(tactic| walk_at "execs cons") => `(tactic| (dsimp only))
local macro_rules | `(tactic| walk_at "execs nil") => `(tactic| (dsimp only))

local macro_rules | `(tactic| walk_at "ItemsRest") => `(tactic| ((with_unfolding_all refine' tw03 [Str.ofString "told", Str.ofString "goal", Str.ofString "h", Str.ofString "reach"] ?h1 ?h2 ?hy ?hx ?_ ?_; (case h1 => assumption); (case h2 => assumption); (case hy => assumption); (case hx => assumption)); (first | (intro n9 t9 oy9 ox9 vy9 vx9 u9 h9 tk9 hn9 hm9 hy9 hx9 F9; ktu_objs) | (intro oy9 ox9 u9 h9 tk9 F9 N9))))
local macro_rules | `(tactic| walk_at "TwE") => `(tactic| (with_unfolding_all (refine' twE_intro ?hs ?hy ?hx ?hz; (case hs => k_subL); (case hy => assumption); (case hx => assumption); (case hz => (intro z h1; first | rfl | (simp [h1]; done) | (simp_all; done))))))

theorem t03 : PySem.Challenge.rw_dm0271_03.Holds := hd (by
  w_strict (
  k_with_none
  k_with "fit0" => first | exact Fit.mono (told_fa (by assumption) (by assumption) (by assumption) (by assumption) (by assumption)) (by decide) | exact Fit.mono (told_fb (by assumption) (by assumption) (by assumption) (by assumption) (by assumption)) (by decide) | exact Fit.mono (Fit.ten rfl (by omega)) (by decide) | exact Fit.mono (Fit.two _ f8) (by decide) | exact Fit.mono (Fit.two _ (by omega)) (by decide) | exact Fit.mono (Fit.mid (by omega) (by omega)) (by decide) | exact Fit.mono (Y_fit (by assumption) (by assumption) (by assumption) (by assumption)) (by decide) | exact Fit.mono (b_fitP (by assumption) (by assumption) (by assumption) (by assumption)) (by decide) | exact Fit.mono (b_fitN (by assumption) (by assumption) (by assumption) (by assumption)) (by decide) | exact Fit.mono ((r2_fit (told_fa (by assumption) (by assumption) (by assumption) (by assumption) (by assumption))).1) (by decide) | exact Fit.mono ((r2_fit (told_fa (by assumption) (by assumption) (by assumption) (by assumption) (by assumption))).2) (by decide) | exact Fit.mono ((r2_fit (told_fb (by assumption) (by assumption) (by assumption) (by assumption) (by assumption))).1) (by decide) | exact Fit.mono ((r2_fit (told_fb (by assumption) (by assumption) (by assumption) (by assumption) (by assumption))).2) (by decide)
  k_with "mul" => (refine Fit.mulOk (n := 1300) (m := 1300) ?_ ?_ (by decide) <;> k_extra "fit0")
  k_with "fit" => exact Fit.mono (Fit.small (by decide) (by decide)) (by decide)
  k_with "pow" => exact Fit.powOk (Fit.small (by decide) (by decide)) ⟨by omega, by omega⟩ (by decide)
  k_with "dl1" => (refine toNat2 ?h; assumption)
  k_with "dl2" => omega
  k_with "dl3" => omega
  k_with "dl4" => first | exact x_fit (by assumption) (by assumption) rfl (by omega) (by omega) | exact x_fit' (by assumption) (by assumption) (by assumption) (by assumption)
  k_with "dl5" => exact ⟨by omega, by omega⟩
  k_with "dl6" => first | exact Or.inr (nd_up (by assumption) rfl (by assumption) (by assumption)) | exact Or.inl (nd_dn (by assumption) rfl (by assumption) (by assumption))
  k_with "dl7" => first | exact red03a (by assumption) (by assumption) (by assumption) (by assumption) | exact red03b (by assumption) (by assumption) (by assumption) (by assumption)
  k_with "ll1" => first | exact Int.pow_pos (by decide) | omega
  k_with "ll2" => omega
  k_with "ll3" => exact llUt
  k_with "ll4" => exact llFt (by assumption) (by assumption)
  k_with "ll5" => first | exact llAt1 (by assumption) (by assumption) (by assumption) (by assumption) | exact llAt2 (by assumption) (by assumption)
  k_with "hc" => first | exact hcP (by assumption) (by assumption) | exact hcN (by assumption) (by assumption)
  k_go0
  (all_goals try k_fold)
  k_steps
  · refine' twE_intro ?hs ?hy ?hx ?hz
    case hs => with_unfolding_all k_subL
    case hz => (intro z h1; (repeat (refine fr_skip h1 ?_ ?ha; (case ha => first | rfl | decide))); exact fr_last h1)
    case hy => assumption
    case hx => assumption))
end
end Mine
end
theorem PySem.Challenge.cw_dm0271_03_holds : PySem.Challenge.rw_dm0271_03.Holds :=
  Mine.t03
