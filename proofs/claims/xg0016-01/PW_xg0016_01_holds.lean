import PyProof.Rows.All
import Wide.All
import OpenK.AllK
import Wide.FinOn
import Lean
import PySem.Challenge.RW_xg0016_01
set_option Elab.async false
set_option maxRecDepth 100000
set_option linter.unusedVariables false
set_option linter.unusedSimpArgs false
section
namespace Mine
noncomputable def ab (x : Rat) : Rat := if x < 0 then -x else x
theorem ab_nonneg (x : Rat) : 0 ≤ ab x := by unfold ab; grind
theorem ab_le_iff {x k : Rat} : ab x ≤ k ↔ -k ≤ x ∧ x ≤ k := by unfold ab; grind
theorem ab_mul (x y : Rat) : ab (x * y) = ab x * ab y := by
  unfold ab
  by_cases hx : x < 0 <;> by_cases hy : y < 0
  · have := Rat.mul_pos (a := -x) (b := -y) (by grind) (by grind)
    grind
  · by_cases h0 : y = 0
    · subst h0; grind
    · have := Rat.mul_pos (a := -x) (b := y) (by grind) (by grind)
      grind
  · by_cases h0 : x = 0
    · subst h0; grind
    · have := Rat.mul_pos (a := x) (b := -y) (by grind) (by grind)
      grind
  · by_cases h0 : x = 0
    · subst h0; grind
    · by_cases h1 : y = 0
      · subst h1; grind
      · have := Rat.mul_pos (a := x) (b := y) (by grind) (by grind)
        grind
theorem ab_add (x y : Rat) : ab (x + y) ≤ ab x + ab y := by unfold ab; grind
theorem ab_sub (x y : Rat) : ab (x - y) ≤ ab x + ab y := by unfold ab; grind
theorem ab_comm (x y : Rat) : ab (x - y) = ab (y - x) := by unfold ab; grind
theorem ab_zero_iff {x : Rat} : ab x = 0 ↔ x = 0 := by unfold ab; grind
theorem mulmono {a b c d : Rat} (h1 : a ≤ b) (h2 : c ≤ d) (hb : 0 ≤ b) (hc : 0 ≤ c) : a * c ≤ b * d :=
  Rat.le_trans (Rat.mul_le_mul_of_nonneg_right h1 hc) (Rat.mul_le_mul_of_nonneg_left h2 hb)
theorem mul_nn {a b : Rat} (ha : 0 ≤ a) (hb : 0 ≤ b) : 0 ≤ a * b := Rat.mul_nonneg ha hb
noncomputable def ss (a b : Rat) : Prop := (0 < a ∧ 0 < b) ∨ (a < 0 ∧ b < 0)
theorem ss_mul {a b c d : Rat} (h : ss a b) (k : ss c d) : ss (a * c) (b * d) := by
  rcases h with ⟨h1, h2⟩ | ⟨h1, h2⟩ <;> rcases k with ⟨k1, k2⟩ | ⟨k1, k2⟩
  · exact .inl ⟨Rat.mul_pos h1 k1, Rat.mul_pos h2 k2⟩
  · have a1 := Rat.mul_pos h1 (b := -c) (by grind)
    have a2 := Rat.mul_pos h2 (b := -d) (by grind)
    exact .inr ⟨by grind, by grind⟩
  · have a1 := Rat.mul_pos (a := -a) (by grind) k1
    have a2 := Rat.mul_pos (a := -b) (by grind) k2
    exact .inr ⟨by grind, by grind⟩
  · have a1 := Rat.mul_pos (a := -a) (b := -c) (by grind) (by grind)
    have a2 := Rat.mul_pos (a := -b) (b := -d) (by grind) (by grind)
    exact .inl ⟨by grind, by grind⟩
theorem ss_near {a b e : Rat} (h1 : e ≤ ab a) (h3 : ab (a - b) < e) : ss a b := by
  unfold ab at *; unfold ss; grind
theorem not_ss {a b e : Rat} (h : ¬ ss a b) (h3 : ab (a - b) ≤ e) : ab a ≤ e ∧ ab b ≤ e := by
  unfold ab at *; unfold ss at h; grind
inductive PE where
  | c (n : Int)
  | x
  | add (a b : PE)
  | mul (a b : PE)
noncomputable def PE.ev : PE → Rat → Rat
  | .c n, _ => (n : Rat)
  | .x, t => t
  | .add a b, t => a.ev t + b.ev t
  | .mul a b, t => a.ev t * b.ev t
theorem PE.nice (L : Rat) (hL : 0 < L) : ∀ p : PE, ∃ K : Rat, 0 < K ∧ (∀ t, ab t ≤ L → ab (p.ev t) ≤ K) ∧ ∀ t u, ab t ≤ L → ab u ≤ L → ab (p.ev t - p.ev u) ≤ K * ab (t - u)
  | .c n => ⟨ab n + 1, by have := ab_nonneg n; grind, fun t _ => by simp only [PE.ev]; grind, fun t u _ _ => by
      have h : ab (PE.ev (.c n) t - PE.ev (.c n) u) = 0 := by simp only [PE.ev]; unfold ab; grind
      rw [h]
      exact mul_nn (by have := ab_nonneg n; grind) (ab_nonneg _)⟩
  | .x => ⟨L + 1, by grind, fun t h => by simp only [PE.ev]; grind, fun t u _ _ => by
      simp only [PE.ev]
      have := Rat.mul_le_mul_of_nonneg_right (a := 1) (b := L + 1) (c := ab (t - u)) (by grind) (ab_nonneg _)
      grind⟩
  | .add a b => by
      obtain ⟨Ka, ha0, ha1, ha2⟩ := PE.nice L hL a
      obtain ⟨Kb, hb0, hb1, hb2⟩ := PE.nice L hL b
      refine ⟨Ka + Kb, by grind, fun t h => ?_, fun t u h h' => ?_⟩
      · have := ha1 t h; have := hb1 t h; have := ab_add (a.ev t) (b.ev t)
        simp only [PE.ev]; grind
      · have h1 := ha2 t u h h'; have h2 := hb2 t u h h'; have h3 := ab_add (a.ev t - a.ev u) (b.ev t - b.ev u)
        simp only [PE.ev]
        have e : a.ev t + b.ev t - (a.ev u + b.ev u) = a.ev t - a.ev u + (b.ev t - b.ev u) := by grind
        rw [e]
        have e2 : (Ka + Kb) * ab (t - u) = Ka * ab (t - u) + Kb * ab (t - u) := by grind
        grind
  | .mul a b => by
      obtain ⟨Ka, ha0, ha1, ha2⟩ := PE.nice L hL a
      obtain ⟨Kb, hb0, hb1, hb2⟩ := PE.nice L hL b
      have hk := Rat.mul_pos ha0 hb0
      refine ⟨Ka * Kb + Ka * Kb, by grind, fun t h => ?_, fun t u h h' => ?_⟩
      · simp only [PE.ev]
        rw [ab_mul]
        have := mulmono (ha1 t h) (hb1 t h) (by grind) (ab_nonneg _)
        grind
      · simp only [PE.ev]
        have e : a.ev t * b.ev t - a.ev u * b.ev u = a.ev t * (b.ev t - b.ev u) + (a.ev t - a.ev u) * b.ev u := by grind
        rw [e]
        have h3 := ab_add (a.ev t * (b.ev t - b.ev u)) ((a.ev t - a.ev u) * b.ev u)
        rw [ab_mul, ab_mul] at h3
        have h4 := mulmono (ha1 t h) (hb2 t u h h') (by grind) (ab_nonneg _)
        have h5 := mulmono (ha2 t u h h') (hb1 u h') (mul_nn (by grind) (ab_nonneg _)) (ab_nonneg _)
        grind
theorem PE.int (k : Int) : ∀ p : PE, ∃ n : Int, p.ev k = n
  | .c n => ⟨n, rfl⟩
  | .x => ⟨k, rfl⟩
  | .add a b => by
      obtain ⟨n, hn⟩ := PE.int k a
      obtain ⟨m, hm⟩ := PE.int k b
      exact ⟨n + m, by simp only [PE.ev, hn, hm, Rat.intCast_add]⟩
  | .mul a b => by
      obtain ⟨n, hn⟩ := PE.int k a
      obtain ⟨m, hm⟩ := PE.int k b
      exact ⟨n * m, by simp only [PE.ev, hn, hm, Rat.intCast_mul]⟩
end Mine
namespace Mine
noncomputable def chg : List Bool → Nat
  | [] => 0
  | [_] => 0
  | a :: b :: r => (if a = b then 0 else 1) + chg (b :: r)
noncomputable def sgs (l : List Rat) : List Bool := (l.filter fun v => decide (v ≠ 0)).map fun v => decide (0 < v)
noncomputable def var (l : List Rat) : Nat := chg (sgs l)
theorem sgs_zero {l : List Rat} : sgs (0 :: l) = sgs l := by simp [sgs]
theorem sgs_pos {a : Rat} {l : List Rat} (h : 0 < a) : sgs (a :: l) = true :: sgs l := by
  have : a ≠ 0 := by grind
  simp [sgs, this, h]
theorem sgs_neg {a : Rat} {l : List Rat} (h : a < 0) : sgs (a :: l) = false :: sgs l := by
  have h1 : a ≠ 0 := by grind
  have h2 : ¬ 0 < a := by grind
  simp [sgs, h1, h2]
theorem var_same {a b : Rat} {l : List Rat} (h : 0 < a * b) : var (a :: b :: l) = var (b :: l) := by
  unfold var
  by_cases ha : 0 < a
  · have hb : 0 < b := by
      by_cases hb : 0 < b
      · exact hb
      · have := mul_nn (a := a) (b := -b) (by grind) (by grind); grind
    rw [sgs_pos ha, sgs_pos hb]; simp [chg]
  · have ha' : a < 0 := by
      by_cases h0 : a = 0
      · subst h0; grind
      · grind
    have hb : b < 0 := by
      by_cases hb : b < 0
      · exact hb
      · have := mul_nn (a := -a) (b := b) (by grind) (by grind); grind
    rw [sgs_neg ha', sgs_neg hb]; simp [chg]
theorem var_opp {a b : Rat} {l : List Rat} (h : a * b < 0) : var (a :: b :: l) = 1 + var (b :: l) := by
  unfold var
  by_cases ha : 0 < a
  · have hb : b < 0 := by
      by_cases hb : b < 0
      · exact hb
      · have := mul_nn (a := a) (b := b) (by grind) (by grind); grind
    rw [sgs_pos ha, sgs_neg hb]; simp [chg]
  · have ha' : a < 0 := by
      by_cases h0 : a = 0
      · subst h0; grind
      · grind
    have hb : 0 < b := by
      by_cases hb : 0 < b
      · exact hb
      · have := mul_nn (a := -a) (b := -b) (by grind) (by grind); grind
    rw [sgs_neg ha', sgs_pos hb]; simp [chg]
theorem var_zero {a : Rat} {l : List Rat} : var (a :: 0 :: l) = var (a :: l) := by
  unfold var
  have e : sgs (a :: 0 :: l) = sgs (a :: l) := by
    by_cases ha : 0 < a
    · rw [sgs_pos ha, sgs_pos ha, sgs_zero]
    · by_cases h0 : a = 0
      · subst h0; rw [sgs_zero]
      · have hn : a < 0 := by grind
        rw [sgs_neg hn, sgs_neg hn, sgs_zero]
  rw [e]
theorem var_skip {a z b : Rat} {l : List Rat} (h : a * b < 0) : var (a :: z :: b :: l) = 1 + var (b :: l) := by
  by_cases hz : z = 0
  · subst hz; rw [var_zero, var_opp h]
  · by_cases h1 : 0 < a * z
    · rw [var_same h1, var_opp]
      by_cases ha : 0 < a
      · have hb : b < 0 := by
          by_cases hb : b < 0
          · exact hb
          · have := mul_nn (a := a) (b := b) (by grind) (by grind); grind
        have hz' : 0 < z := by
          by_cases hz' : 0 < z
          · exact hz'
          · have := mul_nn (a := a) (b := -z) (by grind) (by grind); grind
        have := Rat.mul_pos hz' (b := -b) (by grind); grind
      · have ha' : a < 0 := by
          by_cases h0 : a = 0
          · subst h0; grind
          · grind
        have hb : 0 < b := by
          by_cases hb : 0 < b
          · exact hb
          · have := mul_nn (a := -a) (b := -b) (by grind) (by grind); grind
        have hz' : z < 0 := by
          by_cases hz' : z < 0
          · exact hz'
          · have := mul_nn (a := -a) (b := z) (by grind) (by grind); grind
        have := Rat.mul_pos (a := -z) (b := b) (by grind) hb; grind
    · have h2 : a * z < 0 := by
        by_cases h3 : a * z = 0
        · exfalso
          have h4 := ab_mul a z
          rw [h3] at h4
          have h5 : ab a ≠ 0 := fun q => by rw [ab_zero_iff] at q; subst q; grind
          have h6 : ab z ≠ 0 := fun q => hz (ab_zero_iff.mp q)
          have h7 := Rat.mul_pos (a := ab a) (b := ab z) (by have := ab_nonneg a; grind) (by have := ab_nonneg z; grind)
          have h8 : ab 0 = 0 := by unfold ab; grind
          grind
        · grind
      rw [var_opp h2, var_same]
      by_cases ha : 0 < a
      · have hb : b < 0 := by
          by_cases hb : b < 0
          · exact hb
          · have := mul_nn (a := a) (b := b) (by grind) (by grind); grind
        have hz' : z < 0 := by
          by_cases hz' : z < 0
          · exact hz'
          · have := mul_nn (a := a) (b := z) (by grind) (by grind); grind
        have := Rat.mul_pos (a := -z) (b := -b) (by grind) (by grind); grind
      · have ha' : a < 0 := by
          by_cases h0 : a = 0
          · subst h0; grind
          · grind
        have hb : 0 < b := by
          by_cases hb : 0 < b
          · exact hb
          · have := mul_nn (a := -a) (b := -b) (by grind) (by grind); grind
        have hz' : 0 < z := by
          by_cases hz' : 0 < z
          · exact hz'
          · have := mul_nn (a := -a) (b := -z) (by grind) (by grind); grind
        exact Rat.mul_pos hz' hb
inductive Same : List Rat → List Rat → Prop
  | one {a b : Rat} : ss a b → Same [a] [b]
  | cons {a b a' b' : Rat} {A B : List Rat} : ss a b → ss a' b' → Same (a' :: A) (b' :: B) → Same (a :: a' :: A) (b :: b' :: B)
  | skip {a b z w a' b' : Rat} {A B : List Rat} : ss a b → ss a' b' → a * a' < 0 → Same (a' :: A) (b' :: B) → Same (a :: z :: a' :: A) (b :: w :: b' :: B)
theorem ss_opp {a b a' b' : Rat} (h : ss a b) (k : ss a' b') (o : a * a' < 0) : b * b' < 0 := by
  have := ss_mul h k
  unfold ss at this; grind
theorem Same.var {A B : List Rat} (h : Same A B) : var A = var B := by
  induction h with
  | one h =>
    rcases h with ⟨h1, h2⟩ | ⟨h1, h2⟩
    · unfold Mine.var; rw [sgs_pos h1, sgs_pos h2]; try rfl
    · unfold Mine.var; rw [sgs_neg h1, sgs_neg h2]; try rfl
  | @cons a b a' b' A B h k _ ih =>
    have m := ss_mul h k
    rcases m with ⟨h1, h2⟩ | ⟨h1, h2⟩
    · rw [var_same h1, var_same h2, ih]
    · rw [var_opp h1, var_opp h2, ih]
  | skip h k o _ ih => rw [var_skip o, var_skip (ss_opp h k o), ih]
inductive StC : List PE → Prop
  | one (g : PE) : StC [g]
  | two (a b q : PE) (c : Int) (hc : 0 < c) (e : ∀ t, (c : Rat) * a.ev t = q.ev t * b.ev t) : StC [a, b]
  | step (a b g q : PE) (l : List PE) (c d : Int) (hc : 0 < c) (hd : 0 < d) (e : ∀ t, (c : Rat) * a.ev t = q.ev t * b.ev t - (d : Rat) * g.ev t) : StC (b :: g :: l) → StC (a :: b :: g :: l)
noncomputable def at_ (G : List PE) (t : Rat) : List Rat := G.map (·.ev t)
noncomputable def lastE : List PE → Rat → Rat
  | [], _ => 0
  | [g], t => g.ev t
  | _ :: b :: l, t => lastE (b :: l) t
noncomputable def Big (n : Rat) : List PE → Rat → Prop
  | [], _ => True
  | [g], t => n ≤ ab (g.ev t)
  | a :: b :: _, t => n ≤ ab (a.ev t) + ab (b.ev t)
noncomputable def headE : List PE → Rat → Rat
  | [], _ => 1
  | a :: _, t => a.ev t
noncomputable def Steps (L e : Rat) (G : List PE) : Prop := ∃ n dl : Rat, 0 < n ∧ 0 < dl ∧ (∀ t, ab t ≤ L → e ≤ ab (lastE G t) → Big n G t) ∧
  ∀ t u, ab t ≤ L → ab u ≤ L → e ≤ ab (lastE G t) → e ≤ ab (lastE G u) → ab (t - u) ≤ dl → ss (headE G t) (headE G u) → G ≠ [] → Same (at_ G t) (at_ G u)
theorem steps_one (L e : Rat) (he : 0 < e) (g : PE) : Steps L e [g] :=
  ⟨e, 1, he, by grind, fun _ _ h => h, fun _ _ _ _ _ _ _ h _ => .one h⟩
theorem half_lt {a : Rat} (h : 0 < a) : 0 < a / 2 ∧ a / 2 < a := by grind
theorem div_pos' {a b : Rat} (ha : 0 < a) (hb : 0 < b) : 0 < a / b := by
  rw [Rat.div_def]; exact Rat.mul_pos ha (Rat.inv_pos.mpr hb)
theorem mul_div_self' {a b : Rat} (hb : 0 < b) : b * (a / b) = a := by
  have : b ≠ 0 := by grind
  rw [Rat.div_def, Rat.mul_comm a, ← Rat.mul_assoc, Rat.mul_inv_cancel _ this, Rat.one_mul]
theorem small_step {K dl e x : Rat} (hK : 0 < K) (hd : dl = e / K) (hx : x ≤ dl) : K * x ≤ e := by
  have := Rat.mul_le_mul_of_nonneg_left hx (c := K) (by grind)
  subst hd
  have h2 := mul_div_self' (a := e) hK
  grind
theorem stc_steps (L e : Rat) (hL : 0 < L) (he : 0 < e) {G : List PE} (h : StC G) : Steps L e G ∧ Steps L e G.tail := by
  induction h with
  | one g => exact ⟨steps_one L e he g, ⟨1, 1, by grind (ematch := 0), by grind (ematch := 0), fun _ _ _ => trivial, fun _ _ _ _ _ _ _ _ q => absurd rfl q⟩⟩
  | two a b q c hc eq =>
    refine ⟨?_, steps_one L e he b⟩
    obtain ⟨K, hK, hK1, hK2⟩ := PE.nice L hL b
    refine ⟨e, e / 2 / K, he, div_pos' (by grind (ematch := 0)) hK, fun t ht hl => ?_, fun t u ht hu hl hl' hd hs _ => ?_⟩
    · have hl : e ≤ ab (b.ev t) := hl
      have := ab_nonneg (a.ev t)
      show e ≤ ab (a.ev t) + ab (b.ev t)
      grind (ematch := 0)
    · have h1 := hK2 t u ht hu
      have h2 := small_step (e := e / 2) hK rfl hd
      have hb : ss (b.ev t) (b.ev u) := ss_near (e := e) hl (by grind (ematch := 0))
      exact .cons hs hb (.one hb)
  | step a b g q l c0 d0 hc0 hd0 eq hG ih =>
    refine ⟨?_, ih.1⟩
    have hc : (0 : Rat) < (c0 : Rat) := Rat.intCast_pos.mpr hc0
    have hd : (0 : Rat) < (d0 : Rat) := Rat.intCast_pos.mpr hd0
    generalize (c0 : Rat) = c at hc eq
    generalize (d0 : Rat) = d at hd eq
    obtain ⟨⟨n, dl, hn, hdl, hbig, hstep⟩, n2, dl2, hn2, hdl2, _, hstep2⟩ := ih
    obtain ⟨Kb, hKb, hKb1, hKb2⟩ := PE.nice L hL b
    obtain ⟨Kg, hKg, hKg1, hKg2⟩ := PE.nice L hL g
    obtain ⟨Kq, hKq, hKq1, _⟩ := PE.nice L hL q
    -- d |g| ≤ Kq |b| + c |a|
    have key : ∀ t, ab t ≤ L → d * ab (g.ev t) ≤ Kq * ab (b.ev t) + c * ab (a.ev t) := fun t ht => by
      have e1 : d * g.ev t = q.ev t * b.ev t - c * a.ev t := by have := eq t; grind (ematch := 0)
      have e2 : d * ab (g.ev t) = ab (d * g.ev t) := by rw [ab_mul]; unfold ab; grind (ematch := 0)
      have e3 : c * ab (a.ev t) = ab (c * a.ev t) := by rw [ab_mul]; unfold ab; grind (ematch := 0)
      rw [e2, e3, e1]
      have := ab_sub (q.ev t * b.ev t) (c * a.ev t)
      rw [ab_mul] at this
      have := Rat.mul_le_mul_of_nonneg_right (hKq1 t ht) (ab_nonneg (b.ev t))
      grind (ematch := 0)
    have hM : 0 < d + Kq + c := by grind (ematch := 0)
    -- the size at which b counts as small
    have hs0 : 0 < d * n / 4 / (d + Kq) := div_pos' (by have := Rat.mul_pos hd hn; grind (ematch := 0)) (by grind (ematch := 0))
    have hs1 : (d + Kq) * (d * n / 4 / (d + Kq)) = d * n / 4 := mul_div_self' (by grind (ematch := 0))
    generalize hsm : d * n / 4 / (d + Kq) = sm at hs0 hs1
    have hp1 : 0 < sm / Kb := div_pos' hs0 hKb
    have hp2 : 0 < n / 4 / Kg := div_pos' (by grind (ematch := 0)) hKg
    have hmin : ∃ D : Rat, 0 < D ∧ D ≤ dl ∧ D ≤ dl2 ∧ D ≤ sm / Kb ∧ D ≤ n / 4 / Kg := by
      have two : ∀ x y : Rat, 0 < x → 0 < y → ∃ z, 0 < z ∧ z ≤ x ∧ z ≤ y := fun x y hx hy => by
        by_cases h : x ≤ y
        · exact ⟨x, hx, by grind (ematch := 0), h⟩
        · exact ⟨y, hy, by grind (ematch := 0), by grind (ematch := 0)⟩
      obtain ⟨z1, a1, a2, a3⟩ := two _ _ hdl hdl2
      obtain ⟨z2, b1, b2, b3⟩ := two _ _ hp1 hp2
      obtain ⟨z3, c1, c2, c3⟩ := two _ _ a1 b1
      exact ⟨z3, c1, by grind (ematch := 0), by grind (ematch := 0), by grind (ematch := 0), by grind (ematch := 0)⟩
    obtain ⟨D, hD, hD1, hD2, hD3, hD4⟩ := hmin
    refine ⟨d * n / (d + Kq + c), D, div_pos' (Rat.mul_pos hd hn) hM, hD, fun t ht hl => ?_, fun t u ht hu hl hl' hdd hs _ => ?_⟩
    · have h1 : n ≤ ab (b.ev t) + ab (g.ev t) := hbig t ht hl
      have h2 := key t ht
      show d * n / (d + Kq + c) ≤ ab (a.ev t) + ab (b.ev t)
      have h3 := mul_div_self' (a := d * n) hM
      have h4 := Rat.mul_le_mul_of_nonneg_left h1 (c := d) (by grind (ematch := 0))
      have ha := ab_nonneg (a.ev t)
      have hb := ab_nonneg (b.ev t)
      have h5 := mul_nn (a := d + Kq) (b := ab (a.ev t)) (by grind (ematch := 0)) ha
      have h6 := mul_nn (a := c) (b := ab (b.ev t)) (by grind (ematch := 0)) hb
      refine Rat.le_of_mul_le_mul_left (c := d + Kq + c) ?_ hM
      rw [h3]
      grind (ematch := 0)
    · have hlt : e ≤ ab (lastE (b :: g :: l) t) := hl
      have hlu : e ≤ ab (lastE (b :: g :: l) u) := hl'
      by_cases hb : ss (b.ev t) (b.ev u)
      · exact .cons hs hb (hstep t u ht hu hlt hlu (by grind (ematch := 0)) hb (by simp))
      · have d1 := hKb2 t u ht hu
        have d2 := small_step (x := ab (t - u)) (e := sm) hKb rfl (by grind (ematch := 0))
        obtain ⟨b1, b2⟩ := not_ss (e := sm) hb (by grind (ematch := 0))
        have g1 := hKg2 t u ht hu
        have g2 := small_step (x := ab (t - u)) (e := n / 4) hKg rfl (by grind (ematch := 0))
        have bt : n ≤ ab (b.ev t) + ab (g.ev t) := hbig t ht hlt
        have smn : sm ≤ n / 4 := by
          refine Rat.le_of_mul_le_mul_left (c := d + Kq) ?_ (by grind (ematch := 0))
          rw [hs1]
          have := Rat.mul_pos hKq hn
          grind (ematch := 0)
        have gt : n / 2 ≤ ab (g.ev t) := by grind (ematch := 0)
        have hg : ss (g.ev t) (g.ev u) := ss_near (e := n / 2) gt (by grind (ematch := 0))
        have hag : a.ev t * g.ev t < 0 := by
          -- c a = q b - d g with |q b| < d |g|
          have e1 := eq t
          have q1 : ab (q.ev t * b.ev t) ≤ Kq * sm := by rw [ab_mul]; exact mulmono (hKq1 t ht) b1 (by grind (ematch := 0)) (ab_nonneg _)
          have q2 : Kq * sm ≤ d * n / 4 := by have := Rat.mul_pos hd hs0; grind (ematch := 0)
          have q3 : d * (n / 2) ≤ d * ab (g.ev t) := Rat.mul_le_mul_of_nonneg_left gt (by grind (ematch := 0))
          have q4 := Rat.mul_pos hd hn
          have q5 := ab_le_iff.mp q1
          by_cases hgp : 0 < g.ev t
          · have hab : ab (g.ev t) = g.ev t := by unfold ab; grind (ematch := 0)
            rw [hab] at q3
            have : c * a.ev t < 0 := by grind (ematch := 0)
            have han : a.ev t < 0 := by
              by_cases h : a.ev t < 0
              · exact h
              · have := mul_nn (a := c) (b := a.ev t) (by grind (ematch := 0)) (by grind (ematch := 0)); grind (ematch := 0)
            have := Rat.mul_pos (a := -a.ev t) (b := g.ev t) (by grind (ematch := 0)) hgp
            grind (ematch := 0)
          · have hab : ab (g.ev t) = - g.ev t := by unfold ab; grind (ematch := 0)
            rw [hab] at q3 gt
            have : 0 < c * a.ev t := by grind (ematch := 0)
            have han : 0 < a.ev t := by
              by_cases h : 0 < a.ev t
              · exact h
              · have := mul_nn (a := c) (b := -a.ev t) (by grind (ematch := 0)) (by grind (ematch := 0)); grind (ematch := 0)
            have := Rat.mul_pos (a := a.ev t) (b := -g.ev t) han (by grind (ematch := 0))
            grind (ematch := 0)
        exact .skip hs hg hag (hstep2 t u ht hu (by cases l <;> exact hl) (by cases l <;> exact hl') (by grind (ematch := 0)) hg (by simp))
theorem var_const {G : List PE} (h : StC G) (hne : G ≠ []) {L e : Rat} (hL : 0 < L) (he : 0 < e) {a b : Rat} (hab : a ≤ b) (hin : ∀ t, a ≤ t → t ≤ b → ab t ≤ L) (hlast : ∀ t, a ≤ t → t ≤ b → e ≤ ab (lastE G t))
    (hhead : ∀ t u, a ≤ t → t ≤ b → a ≤ u → u ≤ b → ss (headE G t) (headE G u)) : var (at_ G a) = var (at_ G b) := by
  obtain ⟨⟨n, dl, hn, hdl, _, hs⟩, _⟩ := stc_steps L e hL he h
  have walk : ∀ (k : Nat) (t : Rat), a ≤ t → t ≤ b → b - t ≤ (k : Rat) * dl → var (at_ G t) = var (at_ G b) := by
    intro k
    induction k with
    | zero =>
      intro t h1 h2 h3
      have : t = b := by grind (ematch := 0)
      rw [this]
    | succ k ih =>
      intro t h1 h2 h3
      by_cases h4 : b - t ≤ dl
      · exact (hs t b (hin t h1 h2) (hin b hab (by grind (ematch := 0))) (hlast t h1 h2) (hlast b hab (by grind (ematch := 0))) (by unfold ab; grind (ematch := 0)) (hhead t b h1 h2 hab (by grind (ematch := 0))) hne).var
      · have e1 := (hs t (t + dl) (hin t h1 h2) (hin _ (by grind (ematch := 0)) (by grind (ematch := 0))) (hlast t h1 h2) (hlast _ (by grind (ematch := 0)) (by grind (ematch := 0))) (by unfold ab; grind (ematch := 0)) (hhead t (t + dl) h1 h2 (by grind (ematch := 0)) (by grind (ematch := 0))) hne).var
        rw [e1]
        refine ih _ (by grind (ematch := 0)) (by grind (ematch := 0)) ?_
        have : ((k + 1 : Nat) : Rat) = (k : Rat) + 1 := by simp
        rw [this] at h3
        grind (ematch := 0)
  have arch : ∃ k : Nat, b - a ≤ (k : Rat) * dl := by
    obtain ⟨k, hk⟩ : ∃ k : Nat, (b - a) / dl ≤ (k : Rat) := by
      refine ⟨((b - a) / dl).ceil.toNat, ?_⟩
      have h1 := Rat.le_ceil (x := (b - a) / dl)
      have h2 : (((b - a) / dl).ceil : Rat) ≤ ((((b - a) / dl).ceil.toNat : Int) : Rat) := by
        rw [Rat.intCast_le_intCast]; omega
      exact Rat.le_trans h1 h2
    refine ⟨k, ?_⟩
    have := Rat.mul_le_mul_of_nonneg_right hk (c := dl) (by grind (ematch := 0))
    have h3 := mul_div_self' (a := b - a) hdl
    grind (ematch := 0)
  obtain ⟨k, hk⟩ := arch
  exact walk k a (by grind (ematch := 0)) hab hk
end Mine
namespace Mine
theorem chg_not : ∀ l : List Bool, chg (l.map not) = chg l
  | [] => rfl
  | [_] => rfl
  | a :: b :: r => by
    have := chg_not (b :: r)
    simp only [List.map_cons] at this
    simp only [List.map_cons, chg, this]
    cases a <;> cases b <;> rfl
inductive Sc (L : Rat) : List Rat → List Rat → Prop
  | nil : Sc L [] []
  | cons {a h : Rat} {A H : List Rat} (k : Rat) (hk : 0 < k) (e : k * a = h * L) : Sc L A H → Sc L (a :: A) (h :: H)
theorem Sc.sgs {L : Rat} {A H : List Rat} (s : Sc L A H) : (0 < L → sgs A = sgs H) ∧ (L < 0 → sgs A = (sgs H).map not) := by
  induction s with
  | nil => exact ⟨fun _ => rfl, fun _ => rfl⟩
  | @cons a h A H k hk e _ ih =>
    have tri : ∀ y : Rat, y < 0 ∨ y = 0 ∨ 0 < y := fun y => by grind
    refine ⟨fun hL => ?_, fun hL => ?_⟩
    · have ih := ih.1 hL
      rcases tri h with q | q | q
      · have := Rat.mul_pos (a := -h) (b := L) (by grind) hL
        have ha : a < 0 := by
          by_cases z : a < 0
          · exact z
          · have := mul_nn (a := k) (b := a) (by grind) (by grind); grind
        rw [sgs_neg ha, sgs_neg q, ih]
      · subst q
        have ha : a = 0 := by
          have : k * a = 0 := by grind
          rcases Rat.mul_eq_zero.mp this with z | z
          · grind
          · exact z
        subst ha
        rw [sgs_zero, sgs_zero, ih]
      · have := Rat.mul_pos q hL
        have ha : 0 < a := by
          by_cases z : 0 < a
          · exact z
          · have := mul_nn (a := k) (b := -a) (by grind) (by grind); grind
        rw [sgs_pos ha, sgs_pos q, ih]
    · have ih := ih.2 hL
      rcases tri h with q | q | q
      · have := Rat.mul_pos (a := -h) (b := -L) (by grind) (by grind)
        have ha : 0 < a := by
          by_cases z : 0 < a
          · exact z
          · have := mul_nn (a := k) (b := -a) (by grind) (by grind); grind
        rw [sgs_pos ha, sgs_neg q, ih]; try rfl
      · subst q
        have ha : a = 0 := by
          have : k * a = 0 := by grind
          rcases Rat.mul_eq_zero.mp this with z | z
          · grind
          · exact z
        subst ha
        rw [sgs_zero, sgs_zero, ih]
      · have := Rat.mul_pos (a := h) (b := -L) q (by grind)
        have ha : a < 0 := by
          by_cases z : a < 0
          · exact z
          · have := mul_nn (a := k) (b := a) (by grind) (by grind); grind
        rw [sgs_neg ha, sgs_pos q, ih]; try rfl
theorem Sc.var {L : Rat} {A H : List Rat} (s : Sc L A H) (hL : L ≠ 0) : var A = var H := by
  unfold Mine.var
  by_cases h : 0 < L
  · rw [s.sgs.1 h]
  · rw [s.sgs.2 (by grind), chg_not]
structure Over (G H : List PE) where
  stc : StC H
  one : ∀ t, lastE H t = 1
  sc : ∀ t, Sc (lastE G t) (at_ G t) (at_ H t)
theorem over_of {G : List PE} (h : StC G) : ∃ H : List PE, Over G H ∧ (∀ a G', G = a :: G' → ∃ ha H', H = ha :: H' ∧ ∃ k : Int, 0 < k ∧ ∀ t, (k : Rat) * a.ev t = ha.ev t * lastE G t) ∧
    ∀ a b G', G = a :: b :: G' → ∃ ha hb H', H = ha :: hb :: H' ∧ ∃ k : Int, 0 < k ∧ ∀ t, (k : Rat) * b.ev t = hb.ev t * lastE G t := by
  induction h with
  | one g =>
    refine ⟨[.c 1], ⟨.one _, fun t => rfl, fun t => ?_⟩, fun a G' e => ?_, fun a b G' e => by cases e⟩
    · exact .cons 1 (by grind) (by simp only [PE.ev, lastE] <;> grind) .nil
    · cases e
      exact ⟨_, _, rfl, 1, by decide, fun t => by simp only [PE.ev, lastE] <;> grind⟩
  | two a b q c hc e =>
    have hc' : (0 : Rat) < (c : Rat) := Rat.intCast_pos.mpr hc
    refine ⟨[q, .c 1], ⟨.two _ _ q 1 (by decide) (fun t => by simp only [PE.ev]; grind), fun t => rfl, fun t => ?_⟩, fun a G' e' => ?_, fun a b G' e' => ?_⟩
    · exact .cons c hc' (by simp only [lastE]; exact e t) (.cons 1 (by grind) (by simp only [PE.ev, lastE] <;> grind) .nil)
    · cases e'
      exact ⟨_, _, rfl, c, hc, fun t => e t⟩
    · cases e'
      exact ⟨_, _, _, rfl, 1, by decide, fun t => by simp only [PE.ev, lastE] <;> grind⟩
  | step a b g q l c d hc hd e hG ih =>
    obtain ⟨H, O, hb, hg⟩ := ih
    obtain ⟨hb', hg', H', rfl, kg, kg0, kge⟩ := hg b g l rfl
    obtain ⟨hb'', H'', eq, kb, kb0, kbe⟩ := hb b (g :: l) rfl
    cases eq
    have hL : ∀ t, lastE (a :: b :: g :: l) t = lastE (b :: g :: l) t := fun t => rfl
    have ka0 : 0 < kb * kg * c := Int.mul_pos (Int.mul_pos kb0 kg0) hc
    have kae : ∀ t, ((kb * kg * c : Int) : Rat) * a.ev t = (PE.add (.mul (.c kg) (.mul q hb')) (.mul (.c (-(kb * d))) hg')).ev t * lastE (b :: g :: l) t := fun t => by
      have e1 := e t
      have e2 := kbe t
      have e3 := kge t
      simp only [PE.ev, Rat.intCast_mul, Rat.intCast_neg]
      have s1 : (kb : Rat) * kg * c * a.ev t = kb * kg * (c * a.ev t) := by grind
      rw [s1, e1]
      have s2 : (kb : Rat) * kg * (q.ev t * b.ev t - d * g.ev t) = kg * q.ev t * (kb * b.ev t) - kb * d * (kg * g.ev t) := by grind
      rw [s2, e2, e3]
      grind
    refine ⟨PE.add (.mul (.c kg) (.mul q hb')) (.mul (.c (-(kb * d))) hg') :: hb' :: hg' :: H', ⟨?_, fun t => O.one t, fun t => ?_⟩, fun a' G' e' => ?_, fun a' b' G' e' => ?_⟩
    · refine .step _ _ _ (.mul (.c kg) q) _ 1 (kb * d) (by decide) (Int.mul_pos kb0 hd) (fun t => ?_) O.stc
      simp only [PE.ev, Rat.intCast_mul, Rat.intCast_neg]
      grind
    · exact .cons _ (Rat.intCast_pos.mpr ka0) (kae t) (O.sc t)
    · cases e'
      exact ⟨_, _, rfl, _, ka0, kae⟩
    · cases e'
      exact ⟨_, _, _, rfl, kb, kb0, kbe⟩
theorem two_min (x y : Rat) (hx : 0 < x) (hy : 0 < y) : ∃ z, 0 < z ∧ z ≤ x ∧ z ≤ y := by
  by_cases h : x ≤ y
  · exact ⟨x, hx, by grind, h⟩
  · exact ⟨y, hy, by grind, by grind⟩
theorem zero_of_small {v C D : Rat} (hD : 0 < D) (hC : 0 < C) (h : ∀ x, 0 < x → x ≤ D → ab v ≤ C * x) : v = 0 := by
  by_cases hv : v = 0
  · exact hv
  · exfalso
    have hp : 0 < ab v := by
      have := ab_nonneg v
      have : ab v ≠ 0 := fun q => hv (ab_zero_iff.mp q)
      grind (ematch := 0)
    obtain ⟨z, z0, z1, z2⟩ := two_min D (ab v / 2 / C) hD (div_pos' (by grind (ematch := 0)) hC)
    have := h z z0 z1
    have := small_step (x := z) (e := ab v / 2) hC rfl z2
    grind (ematch := 0)
noncomputable def Near (f g : PE) (r D : Rat) : Prop := ∀ t, t ≠ r → ab (t - r) ≤ D → f.ev t ≠ 0 ∧ ∃ w : Rat, 1 / 2 ≤ w ∧ g.ev t * (t - r) = f.ev t * w
theorem var_cross {f g : PE} {l : List PE} (h : StC (f :: g :: l)) {r D : Rat} (hD : 0 < D) (near : Near f g r D) :
    ∃ D1 : Rat, 0 < D1 ∧ ∀ x, 0 < x → x ≤ D1 → var (at_ (f :: g :: l) (r - x)) = var (at_ (f :: g :: l) (r + x)) + 1 := by
  obtain ⟨H, O, hf, hg⟩ := over_of h
  obtain ⟨hf', hg', H', rfl, kg, kg0, kge⟩ := hg f g l rfl
  obtain ⟨_, _, eq, kf, kf0, kfe⟩ := hf f (g :: l) rfl
  cases eq
  have kg1 : (0 : Rat) < kg := Rat.intCast_pos.mpr kg0
  have kf1 : (0 : Rat) < kf := Rat.intCast_pos.mpr kf0
  generalize (kg : Rat) = kg at kg1 kge
  generalize (kf : Rat) = kf at kf1 kfe
  obtain ⟨L, hL, hLr⟩ : ∃ L : Rat, 0 < L ∧ ab r + D ≤ L := ⟨ab r + D, by have := ab_nonneg r; grind (ematch := 0), by grind (ematch := 0)⟩
  have inL : ∀ t, ab (t - r) ≤ D → ab t ≤ L := fun t ht => by
    have := ab_add (t - r) r
    have e : t - r + r = t := by grind (ematch := 0)
    rw [e] at this
    grind (ematch := 0)
  obtain ⟨Kf, hKf, _, hKf2⟩ := PE.nice L hL hf'
  obtain ⟨Kg, hKg, hKg1, hKg2⟩ := PE.nice L hL hg'
  have rr : ab (r - r) ≤ D := by
    have : r - r = 0 := by grind (ematch := 0)
    rw [this]; unfold ab; grind (ematch := 0)
  -- away from r the last is not nought
  have lastN : ∀ t, t ≠ r → ab (t - r) ≤ D → lastE (f :: g :: l) t ≠ 0 := fun t ht hd q => by
    have e := kfe t
    rw [q] at e
    have : kf * f.ev t = 0 := by grind (ematch := 0)
    rcases Rat.mul_eq_zero.mp this with z | z
    · rw [z] at kf1; exact absurd kf1 (by decide)
    · exact (near t ht hd).1 z
  -- hf * kg * w = kf * hg * (t - r)
  have ratio : ∀ t, t ≠ r → ab (t - r) ≤ D → ∃ w : Rat, 1 / 2 ≤ w ∧ hf'.ev t * (kg * w) = kf * hg'.ev t * (t - r) := fun t ht hd => by
    obtain ⟨n1, w, hw, we⟩ := near t ht hd
    refine ⟨w, hw, ?_⟩
    have l0 := lastN t ht hd
    have e1 := kfe t
    have e2 := kge t
    generalize lastE (f :: g :: l) t = M at l0 e1 e2
    have : (hf'.ev t * (kg * w) - kf * hg'.ev t * (t - r)) * M * f.ev t = 0 := by
      have a1 : (hf'.ev t * (kg * w) - kf * hg'.ev t * (t - r)) * M * f.ev t = (hf'.ev t * M) * kg * (f.ev t * w) - kf * (hg'.ev t * M) * (t - r) * f.ev t := by grind (ematch := 0)
      rw [a1, ← e1, ← e2, ← we]
      grind (ematch := 0)
    rcases Rat.mul_eq_zero.mp this with z | z
    · rcases Rat.mul_eq_zero.mp z with z | z
      · grind (ematch := 0)
      · exact absurd z l0
    · exact absurd z n1
  -- hf vanishes at r
  have hfr : hf'.ev r = 0 := by
    have hC : 0 < Kf + 2 * (kf * Kg / kg) := by
      have := div_pos' (Rat.mul_pos kf1 hKg) kg1
      grind (ematch := 0)
    refine zero_of_small hD hC fun x hx hxD => ?_
    have d1 : ab (r + x - r) ≤ D := by
      have : r + x - r = x := by grind (ematch := 0)
      rw [this]; unfold ab; grind (ematch := 0)
    obtain ⟨w, hw, we⟩ := ratio (r + x) (by grind (ematch := 0)) d1
    have b1 := hKg1 (r + x) (inL _ d1)
    have b2 := hKf2 r (r + x) (inL _ rr) (inL _ d1)
    have e1 : ab (r - (r + x)) = x := by unfold ab; grind (ematch := 0)
    rw [e1] at b2
    have e2 : r + x - r = x := by grind (ematch := 0)
    rw [e2] at we
    -- |hf| kg w = kf |hg| x
    have e3 : ab (hf'.ev (r + x)) * (kg * w) = kf * ab (hg'.ev (r + x)) * x := by
      have q := congrArg ab we
      simp only [ab_mul] at q
      have q0 : ab kg = kg := by unfold ab; grind (ematch := 0)
      have q1 : ab w = w := by unfold ab; grind (ematch := 0)
      have q2 : ab kf = kf := by unfold ab; grind (ematch := 0)
      have q3 : ab x = x := by unfold ab; grind (ematch := 0)
      rw [q0, q1, q2, q3] at q
      exact q
    have e4 : kf * ab (hg'.ev (r + x)) * x ≤ kf * Kg * x := Rat.mul_le_mul_of_nonneg_right (Rat.mul_le_mul_of_nonneg_left b1 (by grind (ematch := 0))) (by grind (ematch := 0))
    have e5 : ab (hf'.ev (r + x)) * (kg * (1 / 2)) ≤ ab (hf'.ev (r + x)) * (kg * w) := Rat.mul_le_mul_of_nonneg_left (Rat.mul_le_mul_of_nonneg_left hw (by grind (ematch := 0))) (ab_nonneg _)
    have e6 := mul_div_self' (a := kf * Kg) kg1
    have e7 : ab (hf'.ev (r + x)) ≤ 2 * (kf * Kg / kg) * x := by
      refine Rat.le_of_mul_le_mul_left (c := kg) ?_ kg1
      have : kg * (2 * (kf * Kg / kg) * x) = 2 * (kg * (kf * Kg / kg)) * x := by grind (ematch := 0)
      rw [this, e6]
      grind (ematch := 0)
    have e8 := ab_add (hf'.ev r - hf'.ev (r + x)) (hf'.ev (r + x))
    have e9 : hf'.ev r - hf'.ev (r + x) + hf'.ev (r + x) = hf'.ev r := by grind (ematch := 0)
    rw [e9] at e8
    grind (ematch := 0)
  -- so hg does not
  obtain ⟨⟨n, _, hn, _, hbig, _⟩, n2, dl, _, hdl, _, hstep⟩ := stc_steps L 1 hL (by decide) O.stc
  have one1 : ∀ t, (1 : Rat) ≤ ab (lastE (hf' :: hg' :: H') t) := fun t => by rw [O.one t]; decide
  have hgr : n ≤ ab (hg'.ev r) := by
    have := hbig r (inL _ rr) (one1 r)
    have this : n ≤ ab (hf'.ev r) + ab (hg'.ev r) := this
    rw [hfr] at this
    have z : ab 0 = 0 := by unfold ab; grind (ematch := 0)
    grind (ematch := 0)
  obtain ⟨z1, a1, a2, a3⟩ := two_min D (dl / 2) hD (by grind (ematch := 0))
  obtain ⟨z2, b1, b2, b3⟩ := two_min z1 (n / 4 / Kg) a1 (div_pos' (by grind (ematch := 0)) hKg)
  refine ⟨z2, b1, fun x hx hxz => ?_⟩
  have e1 : r + x - r = x := by grind (ematch := 0)
  have e2 : r - x - r = -x := by grind (ematch := 0)
  have d1 : ab (r + x - r) ≤ D := by rw [e1]; unfold ab; grind (ematch := 0)
  have d2 : ab (r - x - r) ≤ D := by rw [e2]; unfold ab; grind (ematch := 0)
  have x1 : r + x ≠ r := by grind (ematch := 0)
  have x2 : r - x ≠ r := by grind (ematch := 0)
  have g1 := hKg2 r (r + x) (inL _ rr) (inL _ d1)
  have g2 := hKg2 r (r - x) (inL _ rr) (inL _ d2)
  have ax1 : ab (r - (r + x)) = x := by unfold ab; grind (ematch := 0)
  have ax2 : ab (r - (r - x)) = x := by unfold ab; grind (ematch := 0)
  have sm := small_step (x := x) (e := n / 4) hKg rfl (by grind (ematch := 0))
  rw [ax1] at g1
  rw [ax2] at g2
  have s1 : ss (hg'.ev r) (hg'.ev (r + x)) := ss_near hgr (by grind (ematch := 0))
  have s2 : ss (hg'.ev r) (hg'.ev (r - x)) := ss_near hgr (by grind (ematch := 0))
  have s3 : ss (hg'.ev (r - x)) (hg'.ev (r + x)) := by unfold ss at *; grind (ematch := 0)
  have tailE : ∀ t, (1 : Rat) ≤ ab (lastE (hg' :: H') t) := fun t => one1 t
  have same := (hstep (r - x) (r + x) (inL _ d2) (inL _ d1) (tailE _) (tailE _) (by
    have : ab (r - x - (r + x)) = x + x := by unfold ab; grind (ematch := 0)
    rw [this]; grind (ematch := 0)) s3 (by simp)).var
  rw [(O.sc (r - x)).var (lastN _ x2 d2), (O.sc (r + x)).var (lastN _ x1 d1)]
  obtain ⟨w1, hw1, we1⟩ := ratio _ x1 d1
  obtain ⟨w2, hw2, we2⟩ := ratio _ x2 d2
  rw [e1] at we1
  rw [e2] at we2
  have gg1 : 0 < hg'.ev (r + x) * hg'.ev (r + x) := by
    unfold ss at s1
    rcases s1 with ⟨_, q⟩ | ⟨_, q⟩
    · exact Rat.mul_pos q q
    · have := Rat.mul_pos (a := -hg'.ev (r + x)) (b := -hg'.ev (r + x)) (by grind (ematch := 0)) (by grind (ematch := 0)); grind (ematch := 0)
  have gg2 : 0 < hg'.ev (r - x) * hg'.ev (r - x) := by
    unfold ss at s2
    rcases s2 with ⟨_, q⟩ | ⟨_, q⟩
    · exact Rat.mul_pos q q
    · have := Rat.mul_pos (a := -hg'.ev (r - x)) (b := -hg'.ev (r - x)) (by grind (ematch := 0)) (by grind (ematch := 0)); grind (ematch := 0)
  have p1 : 0 < hf'.ev (r + x) * hg'.ev (r + x) := by
    have kw := Rat.mul_pos kg1 (b := w1) (by grind (ematch := 0))
    have k2 := Rat.mul_pos (Rat.mul_pos kf1 gg1) hx
    by_cases q : 0 < hf'.ev (r + x) * hg'.ev (r + x)
    · exact q
    · have := mul_nn (a := kg * w1) (b := -(hf'.ev (r + x) * hg'.ev (r + x))) (by grind (ematch := 0)) (by grind (ematch := 0))
      have e : kg * w1 * -(hf'.ev (r + x) * hg'.ev (r + x)) = -(hf'.ev (r + x) * (kg * w1) * hg'.ev (r + x)) := by grind (ematch := 0)
      rw [e, we1] at this
      have e : -(kf * hg'.ev (r + x) * x * hg'.ev (r + x)) = -(kf * (hg'.ev (r + x) * hg'.ev (r + x)) * x) := by grind (ematch := 0)
      rw [e] at this
      grind (ematch := 0)
  have p2 : hf'.ev (r - x) * hg'.ev (r - x) < 0 := by
    have kw := Rat.mul_pos kg1 (b := w2) (by grind (ematch := 0))
    have k2 := Rat.mul_pos (Rat.mul_pos kf1 gg2) hx
    by_cases q : hf'.ev (r - x) * hg'.ev (r - x) < 0
    · exact q
    · have := mul_nn (a := kg * w2) (b := hf'.ev (r - x) * hg'.ev (r - x)) (by grind (ematch := 0)) (by grind (ematch := 0))
      have e : kg * w2 * (hf'.ev (r - x) * hg'.ev (r - x)) = hf'.ev (r - x) * (kg * w2) * hg'.ev (r - x) := by grind (ematch := 0)
      rw [e, we2] at this
      have e : kf * hg'.ev (r - x) * -x * hg'.ev (r - x) = -(kf * (hg'.ev (r - x) * hg'.ev (r - x)) * x) := by grind (ematch := 0)
      rw [e] at this
      grind (ematch := 0)
  have q1 : var (at_ (hf' :: hg' :: H') (r + x)) = var (at_ (hg' :: H') (r + x)) := var_same p1
  have q2 : var (at_ (hf' :: hg' :: H') (r - x)) = 1 + var (at_ (hg' :: H') (r - x)) := var_opp p2
  rw [q1, q2]
  have same' : var (at_ (hg' :: H') (r - x)) = var (at_ (hg' :: H') (r + x)) := same
  omega
end Mine
namespace Mine
noncomputable def Fv (m d : Int) : List Int → Rat → Rat
  | [], t => (t - 2 * (m : Rat)) * (t - 2 * (m : Rat)) + (d : Rat) * (d : Rat)
  | p :: ps, t => Fv m d ps t * (t - 2 * (p : Rat))
noncomputable def DFv (m d : Int) : List Int → Rat → Rat
  | [], t => 2 * (t - 2 * (m : Rat))
  | p :: ps, t => DFv m d ps t * (t - 2 * (p : Rat)) + Fv m d ps t
theorem sq_nn (x : Rat) : 0 ≤ x * x := by
  by_cases h : 0 ≤ x
  · exact mul_nn h h
  · have := mul_nn (a := -x) (b := -x) (by grind) (by grind); grind
theorem one_le_sq {d : Int} (hd : 0 < d) : (1 : Rat) ≤ (d : Rat) * (d : Rat) := by
  have : ((1 : Int) : Rat) ≤ (d : Rat) := by rw [Rat.intCast_le_intCast]; omega
  have h1 : (1 : Rat) ≤ (d : Rat) := this
  have := mulmono h1 h1 (by grind) (by grind)
  grind
theorem Fv_low (m d : Int) (hd : 0 < d) {η : Rat} (hη : 0 < η) : ∀ ps : List Int, ∃ e : Rat, 0 < e ∧ ∀ t : Rat, (∀ p ∈ ps, η ≤ ab (t - 2 * (p : Rat))) → e ≤ ab (Fv m d ps t)
  | [] => ⟨1, by decide, fun t _ => by
      have h1 := sq_nn (t - 2 * (m : Rat))
      have h2 := one_le_sq hd
      simp only [Fv]; unfold ab; grind (ematch := 0)⟩
  | p :: ps => by
      obtain ⟨e, he, h⟩ := Fv_low m d hd hη ps
      refine ⟨e * η, Rat.mul_pos he hη, fun t ht => ?_⟩
      simp only [Fv]
      rw [ab_mul]
      exact mulmono (h t fun q hq => ht q (.tail _ hq)) (ht p (.head _)) (ab_nonneg _) (by grind (ematch := 0))
theorem Fv_ss (m d : Int) (hd : 0 < d) {a b : Rat} {t u : Rat} (h1 : a ≤ t) (h2 : t ≤ b) (h3 : a ≤ u) (h4 : u ≤ b) : ∀ ps : List Int, (∀ p ∈ ps, 2 * (p : Rat) < a ∨ b < 2 * (p : Rat)) → ss (Fv m d ps t) (Fv m d ps u)
  | [], _ => by
      have a1 := sq_nn (t - 2 * (m : Rat))
      have a2 := sq_nn (u - 2 * (m : Rat))
      have a3 := one_le_sq hd
      exact .inl ⟨by simp only [Fv]; grind (ematch := 0), by simp only [Fv]; grind (ematch := 0)⟩
  | p :: ps, h => by
      have ih := Fv_ss m d hd h1 h2 h3 h4 ps fun q hq => h q (.tail _ hq)
      refine ss_mul ih ?_
      rcases h p (.head _) with q | q
      · exact .inl ⟨by grind (ematch := 0), by grind (ematch := 0)⟩
      · exact .inr ⟨by grind (ematch := 0), by grind (ematch := 0)⟩
theorem ab_div_le {x y : Rat} (hy : 1 ≤ ab y) : ab (x / y) ≤ ab x := by
  have hy0 : y ≠ 0 := fun q => by subst q; exact absurd hy (by decide)
  have e : ab (x / y) * ab y = ab x := by
    rw [← ab_mul, Rat.div_def, Rat.mul_assoc, Rat.inv_mul_cancel _ hy0, Rat.mul_one]
  have := Rat.mul_le_mul_of_nonneg_left hy (c := ab (x / y)) (ab_nonneg _)
  grind (ematch := 0)
theorem int_apart {r p : Int} (h : p ≠ r) : (1 : Rat) ≤ ab ((r : Rat) - (p : Rat)) := by
  rcases Int.lt_or_gt_of_ne h with q | q
  · have : ((p + 1 : Int) : Rat) ≤ (r : Rat) := by rw [Rat.intCast_le_intCast]; omega
    rw [Rat.intCast_add] at this
    have o : ((1 : Int) : Rat) = 1 := rfl
    unfold ab; grind (ematch := 0)
  · have : ((r + 1 : Int) : Rat) ≤ (p : Rat) := by rw [Rat.intCast_le_intCast]; omega
    rw [Rat.intCast_add] at this
    have o : ((1 : Int) : Rat) = 1 := rfl
    unfold ab; grind (ematch := 0)
theorem div_mul_self {x y : Rat} (hy : y ≠ 0) : x / y * y = x := by
  rw [Rat.div_def, Rat.mul_assoc, Rat.inv_mul_cancel _ hy, Rat.mul_one]
theorem Fv_near (m d r : Int) (hd : 0 < d) {t : Rat} (hx : t ≠ 2 * (r : Rat)) (h1 : ab (t - 2 * (r : Rat)) ≤ 1) : ∀ ps : List Int, Fv m d ps t ≠ 0 ∧ ∃ w : Rat, DFv m d ps t * (t - 2 * (r : Rat)) = Fv m d ps t * w ∧
    ((ps.count r : Nat) : Rat) - ((ps.length : Nat) + 1 : Rat) * ab (t - 2 * (r : Rat)) ≤ w
  | [] => by
      have a1 := sq_nn (t - 2 * (m : Rat))
      have a3 := one_le_sq hd
      have a4 := sq_nn (t - 2 * (m : Rat) - 1)
      have a5 := sq_nn (t - 2 * (m : Rat) + 1)
      generalize hu : t - 2 * (m : Rat) = u at a1 a4 a5
      have hF : Fv m d [] t = u * u + d * d := by simp only [Fv, hu]
      have hD : DFv m d [] t = 2 * u := by simp only [DFv, hu]
      have hpos : 0 < Fv m d [] t := by rw [hF]; grind (ematch := 0)
      refine ⟨by grind (ematch := 0), DFv m d [] t * (t - 2 * (r : Rat)) / Fv m d [] t, ?_, ?_⟩
      · rw [Rat.mul_comm (Fv m d [] t), div_mul_self (by grind (ematch := 0))]
      · have b1 : ab (DFv m d [] t / Fv m d [] t) ≤ 1 := by
          have e : ab (DFv m d [] t / Fv m d [] t) * Fv m d [] t = ab (DFv m d [] t) := by
            have : Fv m d [] t = ab (Fv m d [] t) := by unfold ab; grind (ematch := 0)
            conv => lhs; rhs; rw [this]
            rw [← ab_mul, div_mul_self (by grind (ematch := 0))]
          have c1 : ab (DFv m d [] t) ≤ Fv m d [] t := by
            rw [hD, hF]; unfold ab; grind (ematch := 0)
          refine Rat.le_of_mul_le_mul_right (c := Fv m d [] t) ?_ hpos
          rw [e]; grind (ematch := 0)
        have b2 : ab (DFv m d [] t * (t - 2 * (r : Rat)) / Fv m d [] t) ≤ ab (t - 2 * (r : Rat)) := by
          have e : DFv m d [] t * (t - 2 * (r : Rat)) / Fv m d [] t = DFv m d [] t / Fv m d [] t * (t - 2 * (r : Rat)) := by
            rw [Rat.div_def, Rat.div_def]; grind (ematch := 0)
          rw [e, ab_mul]
          have := Rat.mul_le_mul_of_nonneg_right b1 (ab_nonneg (t - 2 * (r : Rat)))
          grind (ematch := 0)
        have b3 := (ab_le_iff.mp b2).1
        have z1 : ((([] : List Int).count r : Nat) : Rat) = 0 := by simp
        have z2 : ((([] : List Int).length : Nat) : Rat) = 0 := by simp
        rw [z1, z2]
        grind (ematch := 0)
  | p :: ps => by
      obtain ⟨n0, w, we, wl⟩ := Fv_near m d r hd hx h1 ps
      have hlen : (((p :: ps).length : Nat) : Rat) = (ps.length : Nat) + 1 := by simp
      by_cases hp : p = r
      · subst hp
        have y0 : t - 2 * (p : Rat) ≠ 0 := by grind (ematch := 0)
        refine ⟨?_, w + 1, ?_, ?_⟩
        · simp only [Fv]; intro q
          rcases Rat.mul_eq_zero.mp q with z | z
          · exact n0 z
          · exact y0 z
        · simp only [Fv, DFv]; grind (ematch := 0)
        · have hc : (((p :: ps).count p : Nat) : Rat) = (ps.count p : Nat) + 1 := by rw [List.count_cons_self]; simp
          rw [hc, hlen]
          have := ab_nonneg (t - 2 * (p : Rat))
          grind (ematch := 0)
      · have far : 1 ≤ ab (t - 2 * (p : Rat)) := by
          have := int_apart hp
          have e : (t - 2 * (p : Rat)) = (t - 2 * (r : Rat)) - 2 * ((p : Rat) - (r : Rat)) := by grind (ematch := 0)
          have e2 := ab_comm (r : Rat) (p : Rat)
          unfold ab at *; grind (ematch := 0)
        have y0 : t - 2 * (p : Rat) ≠ 0 := fun q => by rw [q] at far; exact absurd far (by decide)
        refine ⟨?_, w + (t - 2 * (r : Rat)) / (t - 2 * (p : Rat)), ?_, ?_⟩
        · simp only [Fv]; intro q
          rcases Rat.mul_eq_zero.mp q with z | z
          · exact n0 z
          · exact y0 z
        · simp only [Fv, DFv]
          have := div_mul_self (x := t - 2 * (r : Rat)) y0
          generalize (t - 2 * (r : Rat)) / (t - 2 * (p : Rat)) = k at this
          have e : (DFv m d ps t * (t - 2 * (p : Rat)) + Fv m d ps t) * (t - 2 * (r : Rat)) = (DFv m d ps t * (t - 2 * (r : Rat))) * (t - 2 * (p : Rat)) + Fv m d ps t * (t - 2 * (r : Rat)) := by grind (ematch := 0)
          rw [e, we]
          conv => lhs; rhs; rw [← this]
          grind (ematch := 0)
        · have hc : (((p :: ps).count r : Nat) : Rat) = (ps.count r : Nat) := by rw [List.count_cons_of_ne hp]
          rw [hc, hlen]
          have := (ab_le_iff.mp (ab_div_le (x := t - 2 * (r : Rat)) far)).1
          grind (ematch := 0)
section
variable {m d : Int} {ps : List Int} {f g : PE} {l : List PE}
theorem var_flat (h : StC (f :: g :: l)) (hd : 0 < d) (hf : ∀ t, f.ev t = Fv m d ps t) {a b η : Rat} (hη : 0 < η) (hab : a ≤ b) (far : ∀ p ∈ ps, 2 * (p : Rat) + η ≤ a ∨ b + η ≤ 2 * (p : Rat)) :
    var (at_ (f :: g :: l) a) = var (at_ (f :: g :: l) b) := by
  obtain ⟨e, he, low⟩ := Fv_low m d hd hη ps
  obtain ⟨H, O, h1, _⟩ := over_of h
  obtain ⟨ha, H', rfl, k, hk, ke⟩ := h1 f (g :: l) rfl
  have hk1 : (0 : Rat) < k := Rat.intCast_pos.mpr hk
  obtain ⟨L, hL, hLa, hLb⟩ : ∃ L : Rat, 0 < L ∧ ab a ≤ L ∧ ab b ≤ L := ⟨ab a + ab b + 1, by have := ab_nonneg a; have := ab_nonneg b; grind (ematch := 0), by have := ab_nonneg b; grind (ematch := 0), by have := ab_nonneg a; grind (ematch := 0)⟩
  have inL : ∀ t, a ≤ t → t ≤ b → ab t ≤ L := fun t q1 q2 => by unfold ab at *; grind (ematch := 0)
  obtain ⟨K, hK, hK1, _⟩ := PE.nice L hL ha
  refine var_const h (by simp) hL (div_pos' (Rat.mul_pos hk1 he) hK) hab inL (fun t q1 q2 => ?_) (fun t u q1 q2 q3 q4 => ?_)
  · have e1 : e ≤ ab (f.ev t) := by
      rw [hf]
      refine low t fun p hp => ?_
      rcases far p hp with z | z <;> (unfold ab; grind (ematch := 0))
    have e2 := congrArg ab (ke t)
    rw [ab_mul, ab_mul] at e2
    have e3 : ab (k : Rat) = k := by unfold ab; grind (ematch := 0)
    rw [e3] at e2
    refine Rat.le_of_mul_le_mul_left (c := K) ?_ hK
    rw [mul_div_self' hK]
    have e4 := Rat.mul_le_mul_of_nonneg_left e1 (c := (k : Rat)) (by grind (ematch := 0))
    have e5 := Rat.mul_le_mul_of_nonneg_right (hK1 t (inL t q1 q2)) (ab_nonneg (lastE (f :: g :: l) t))
    grind (ematch := 0)
  · show ss (f.ev t) (f.ev u)
    rw [hf, hf]
    refine Fv_ss m d hd q1 q2 q3 q4 ps fun p hp => ?_
    rcases far p hp with z | z
    · exact .inl (by grind (ematch := 0))
    · exact .inr (by grind (ematch := 0))
theorem int_le_rat {a b : Int} (h : a ≤ b) : (a : Rat) ≤ (b : Rat) := Rat.intCast_le_intCast.mpr h
theorem var_step (h : StC (f :: g :: l)) (hd : 0 < d) (hf : ∀ t, f.ev t = Fv m d ps t) (hg : ∀ t, g.ev t = DFv m d ps t) (k : Int) :
    var (at_ (f :: g :: l) (2 * (k : Rat) - 1)) = var (at_ (f :: g :: l) (2 * (k : Rat) + 1)) + (if k ∈ ps then 1 else 0) := by
  have away : ∀ p : Int, p ≠ k → 2 * (p : Rat) + 2 ≤ 2 * (k : Rat) ∨ 2 * (k : Rat) + 2 ≤ 2 * (p : Rat) := fun p hp => by
    rcases Int.lt_or_gt_of_ne hp with q | q
    · have := int_le_rat (a := p + 1) (b := k) (by omega)
      rw [Rat.intCast_add] at this
      have o : ((1 : Int) : Rat) = 1 := rfl
      exact .inl (by grind (ematch := 0))
    · have := int_le_rat (a := k + 1) (b := p) (by omega)
      rw [Rat.intCast_add] at this
      have o : ((1 : Int) : Rat) = 1 := rfl
      exact .inr (by grind (ematch := 0))
  by_cases hk : k ∈ ps
  · rw [if_pos hk]
    have near : Near f g (2 * (k : Rat)) (1 / (2 * ((ps.length : Nat) + 1 : Rat))) := fun t ht hD => by
      have len0 : (0 : Rat) ≤ ((ps.length : Nat) : Rat) := by
        have := int_le_rat (a := 0) (b := (ps.length : Int)) (by omega)
        exact this
      have pos2 : (0 : Rat) < 2 * ((ps.length : Nat) + 1 : Rat) := by grind (ematch := 0)
      have e1 := mul_div_self' (a := 1) pos2
      have e2 := Rat.mul_le_mul_of_nonneg_left hD (c := 2 * ((ps.length : Nat) + 1 : Rat)) (by grind (ematch := 0))
      rw [e1] at e2
      have a0 := ab_nonneg (t - 2 * (k : Rat))
      have m0 := mul_nn len0 a0
      have hle1 : ab (t - 2 * (k : Rat)) ≤ 1 := by grind (ematch := 0)
      obtain ⟨n0, w, we, wl⟩ := Fv_near m d k hd ht hle1 ps
      rw [hf, hg]
      refine ⟨n0, w, ?_, we⟩
      have c1 : (1 : Rat) ≤ ((ps.count k : Nat) : Rat) := by
        have : 0 < ps.count k := List.count_pos_iff.mpr hk
        have := int_le_rat (a := 1) (b := (ps.count k : Int)) (by omega)
        exact this
      grind (ematch := 0)
    have hD0 : (0 : Rat) < 1 / (2 * ((ps.length : Nat) + 1 : Rat)) := by
      have len0 : (0 : Rat) ≤ ((ps.length : Nat) : Rat) := int_le_rat (a := 0) (b := (ps.length : Int)) (by omega)
      exact div_pos' (by decide) (by grind (ematch := 0))
    obtain ⟨D1, hD1, cross⟩ := var_cross h hD0 near
    obtain ⟨x, x0, x1, x2⟩ := two_min D1 (1 / 2) hD1 (by grind)
    have c := cross x x0 x1
    have l1 := var_flat (a := 2 * (k : Rat) - 1) (b := 2 * (k : Rat) - x) h hd hf x0 (by grind (ematch := 0)) (fun p _ => by
      by_cases hp : p = k
      · subst hp; exact .inr (by grind (ematch := 0))
      · rcases away p hp with z | z
        · exact .inl (by grind (ematch := 0))
        · exact .inr (by grind (ematch := 0)))
    have l2 := var_flat (a := 2 * (k : Rat) + x) (b := 2 * (k : Rat) + 1) h hd hf x0 (by grind (ematch := 0)) (fun p _ => by
      by_cases hp : p = k
      · subst hp; exact .inl (by grind (ematch := 0))
      · rcases away p hp with z | z
        · exact .inl (by grind (ematch := 0))
        · exact .inr (by grind (ematch := 0)))
    rw [l1, c, l2]
  · rw [if_neg hk]
    have := var_flat (a := 2 * (k : Rat) - 1) (b := 2 * (k : Rat) + 1) (η := 1) h hd hf (by decide) (by grind (ematch := 0)) (fun p hp => by
      rcases away p (fun q => hk (q ▸ hp)) with z | z
      · exact .inl (by grind (ematch := 0))
      · exact .inr (by grind (ematch := 0)))
    rw [this]; rfl
end
end Mine
namespace Mine
noncomputable def horner (p : List Int) (x : Int) : Int := p.foldl (fun v c => v * x + c) 0
noncomputable def evQ (p : List Int) (t : Rat) : Rat := p.foldl (fun (v : Rat) (c : Int) => v * t + (c : Rat)) 0
noncomputable def PE.of (p : List Int) : PE := p.foldl (fun (v : PE) (c : Int) => .add (.mul v .x) (.c c)) (.c 0)
theorem PE.of_go (t : Rat) : ∀ (p : List Int) (e : PE) (v : Rat), e.ev t = v → (p.foldl (fun (v : PE) (c : Int) => PE.add (.mul v .x) (.c c)) e).ev t = p.foldl (fun (v : Rat) (c : Int) => v * t + (c : Rat)) v
  | [], _, _, h => h
  | k :: p, e, v, h => PE.of_go t p _ _ (by simp only [PE.ev, h])
theorem PE.of_ev (p : List Int) (t : Rat) : (PE.of p).ev t = evQ p t := PE.of_go t p _ _ rfl
theorem horner_go (x : Int) : ∀ (p : List Int) (v : Int), ((p.foldl (fun v c => v * x + c) v : Int) : Rat) = p.foldl (fun (v : Rat) (c : Int) => v * (x : Rat) + (c : Rat)) (v : Rat)
  | [], _ => rfl
  | c :: p, v => by
    simp only [List.foldl_cons]
    rw [horner_go x p, Rat.intCast_add, Rat.intCast_mul]
theorem horner_cast (p : List Int) (x : Int) : ((horner p x : Int) : Rat) = evQ p (x : Rat) := horner_go x p 0
noncomputable def evW (w : Nat → Rat) : List Int → Rat
  | [] => 0
  | a :: l => (a : Rat) * w l.length + evW w l
theorem evQ_go (t : Rat) : ∀ (p : List Int) (v : Rat), p.foldl (fun (v : Rat) (c : Int) => v * t + (c : Rat)) v = v * t ^ p.length + evW (fun n => t ^ n) p
  | [], v => by simp only [List.foldl_nil, List.length_nil, evW]; grind
  | c :: p, v => by
    simp only [List.foldl_cons, List.length_cons, evW]
    rw [evQ_go t p]
    grind
theorem evQ_eq (p : List Int) (t : Rat) : evQ p t = evW (fun n => t ^ n) p := by
  unfold evQ; rw [evQ_go]; grind
theorem evW_mul (k : Rat) (w : Nat → Rat) : ∀ l, evW (fun n => k * w n) l = k * evW w l
  | [] => by simp only [evW]; grind
  | a :: l => by simp only [evW, evW_mul k w l]; grind
theorem evW_add (w w' : Nat → Rat) : ∀ l, evW (fun n => w n + w' n) l = evW w l + evW w' l
  | [] => by simp only [evW]; grind
  | a :: l => by simp only [evW, evW_add w w' l]; grind
theorem evW_congr {w w' : Nat → Rat} (h : ∀ n, w n = w' n) (l : List Int) : evW w l = evW w' l := by
  have : w = w' := funext h
  rw [this]
theorem evW_set (w : Nat → Rat) (v : Int) : ∀ (l : List Int) (i : Nat), i < l.length → evW w (l.set i (l.getD i 0 + v)) = evW w l + (v : Rat) * w (l.length - 1 - i)
  | [], i, h => absurd h (Nat.not_lt_zero _)
  | a :: l, 0, _ => by
    simp only [List.set_cons_zero, evW, List.getD_cons_zero, Rat.intCast_add, List.length_cons, Nat.add_sub_cancel, Nat.sub_zero]
    grind
  | a :: l, i + 1, h => by
    simp only [List.set_cons_succ, evW, List.getD_cons_succ, List.length_set, List.length_cons]
    rw [evW_set w v l i (by simpa using h)]
    have : l.length + 1 - 1 - (i + 1) = l.length - 1 - i := by omega
    rw [this]; grind
theorem evW_zeros (w : Nat → Rat) : ∀ n, evW w (List.replicate n 0) = 0
  | 0 => rfl
  | n + 1 => by
    simp only [List.replicate_succ, evW, evW_zeros w n, List.length_replicate]
    have : ((0 : Int) : Rat) = 0 := rfl
    grind
noncomputable def addRow (c : Int) : List Int → Nat → List Int → List Int
  | [], _, acc => acc
  | b :: two, i, acc => addRow c two (i + 1) (acc.set i (acc.getD i 0 + c * b))
noncomputable def timesGo (two : List Int) : List Int → Nat → List Int → List Int
  | [], _, acc => acc
  | a :: one, k, acc => timesGo two one (k + 1) (addRow a two k acc)
noncomputable def timesF (one two : List Int) : List Int := timesGo two one 0 (List.replicate (one.length + two.length - 1) 0)
theorem addRow_length (c : Int) : ∀ (two : List Int) (i : Nat) (acc : List Int), (addRow c two i acc).length = acc.length
  | [], _, _ => rfl
  | b :: two, i, acc => by simp only [addRow, addRow_length c two, List.length_set]
theorem timesGo_length (two : List Int) : ∀ (one : List Int) (k : Nat) (acc : List Int), (timesGo two one k acc).length = acc.length
  | [], _, _ => rfl
  | a :: one, k, acc => by simp only [timesGo, timesGo_length two one, addRow_length]
theorem timesF_length (one two : List Int) : (timesF one two).length = one.length + two.length - 1 := by simp only [timesF, timesGo_length, List.length_replicate]
theorem evW_addRow (w : Nat → Rat) (c : Int) : ∀ (two : List Int) (i : Nat) (acc : List Int), i + two.length ≤ acc.length →
    evW w (addRow c two i acc) = evW w acc + (c : Rat) * evW (fun b => w (acc.length - i - two.length + b)) two
  | [], i, acc, _ => by simp only [addRow, evW]; grind
  | b :: two, i, acc, h => by
    simp only [List.length_cons] at h
    simp only [addRow]
    rw [evW_addRow w c two (i + 1) _ (by rw [List.length_set]; omega), evW_set w _ acc i (by omega), List.length_set]
    simp only [evW, List.length_cons, Rat.intCast_mul]
    have e1 : acc.length - 1 - i = acc.length - i - (two.length + 1) + two.length := by omega
    have e2 : acc.length - (i + 1) - two.length = acc.length - i - (two.length + 1) := by omega
    rw [e1, e2]; grind
theorem evW_timesGo (w : Nat → Rat) (two : List Int) : ∀ (one : List Int) (k : Nat) (acc : List Int), acc.length + 1 = k + one.length + two.length → 0 < two.length →
    evW w (timesGo two one k acc) = evW w acc + evW (fun a => evW (fun b => w (a + b)) two) one
  | [], k, acc, _, _ => by simp only [timesGo, evW]; grind
  | a :: one, k, acc, h, h2 => by
    simp only [List.length_cons] at h
    simp only [timesGo, evW]
    rw [evW_timesGo w two one (k + 1) _ (by rw [addRow_length]; omega) h2, evW_addRow w a two k acc (by omega)]
    have : acc.length - k - two.length = one.length := by omega
    rw [this]; grind
theorem evW_timesF (w : Nat → Rat) {one two : List Int} (h2 : 0 < two.length) (h1 : 0 < one.length) : evW w (timesF one two) = evW (fun a => evW (fun b => w (a + b)) two) one := by
  unfold timesF
  rw [evW_timesGo w two one 0 _ (by rw [List.length_replicate]; omega) h2, evW_zeros]; grind
noncomputable def dw (t : Rat) : Nat → Rat
  | 0 => 0
  | n + 1 => ((n : Nat) + 1 : Rat) * t ^ n
theorem dw_add (t : Rat) : ∀ a b : Nat, dw t (a + b) = dw t a * t ^ b + t ^ a * dw t b
  | 0, b => by simp only [Nat.zero_add, dw]; grind
  | a + 1, 0 => by simp only [Nat.add_zero, dw]; grind
  | a + 1, b + 1 => by
    have e : a + 1 + (b + 1) = (a + b + 1) + 1 := by omega
    rw [e]
    simp only [dw]
    have : (((a + b + 1 : Nat)) : Rat) = (a : Rat) + (b : Rat) + 1 := by simp
    rw [this]
    grind
theorem ev_times {one two : List Int} (h2 : 0 < two.length) (h1 : 0 < one.length) (t : Rat) : evQ (timesF one two) t = evQ one t * evQ two t := by
  rw [evQ_eq, evQ_eq, evQ_eq, evW_timesF _ h2 h1]
  have : ∀ a, evW (fun b => t ^ (a + b)) two = evW (fun n => t ^ n) two * t ^ a := fun a => by
    rw [evW_congr (w' := fun b => t ^ a * t ^ b) (fun b => by grind), evW_mul]; grind
  rw [evW_congr this, evW_mul]; grind
theorem dev_times {one two : List Int} (h2 : 0 < two.length) (h1 : 0 < one.length) (t : Rat) : evW (dw t) (timesF one two) = evW (dw t) one * evQ two t + evQ one t * evW (dw t) two := by
  rw [evQ_eq, evQ_eq, evW_timesF _ h2 h1]
  have : ∀ a, evW (fun b => dw t (a + b)) two = evW (fun n => t ^ n) two * dw t a + evW (dw t) two * t ^ a := fun a => by
    rw [evW_congr (w' := fun b => dw t a * t ^ b + t ^ a * dw t b) (fun b => dw_add t a b), evW_add, evW_mul, evW_mul]; grind
  rw [evW_congr this, evW_add, evW_mul, evW_mul]; grind
noncomputable def derivF : List Int → List Int
  | [] => []
  | [_] => []
  | a :: b :: l => a * ((l.length + 1 : Nat) : Int) :: derivF (b :: l)
theorem derivF_length : ∀ l : List Int, (derivF l).length = l.length - 1
  | [] => rfl
  | [_] => rfl
  | a :: b :: l => by simp only [derivF, List.length_cons, derivF_length (b :: l)]; omega
theorem ev_deriv (t : Rat) : ∀ l : List Int, evQ (derivF l) t = evW (dw t) l
  | [] => rfl
  | [a] => by rw [evQ_eq]; simp only [derivF, evW, List.length_nil, dw]; grind
  | a :: b :: l => by
    have ih := ev_deriv t (b :: l)
    rw [evQ_eq] at ih ⊢
    simp only [derivF, evW, derivF_length, List.length_cons, dw, Rat.intCast_mul] at ih ⊢
    have e : l.length + 1 - 1 = l.length := by omega
    have e2 : (((l.length + 1 : Nat) : Int) : Rat) = ((l.length : Nat) : Rat) + 1 := by
      have : (((l.length + 1 : Nat) : Int) : Rat) = ((l.length + 1 : Nat) : Rat) := rfl
      rw [this]; simp
    rw [e, e2, ih]; grind
noncomputable def productF (ps : List Int) (m d : Int) : List Int := ps.foldl (fun acc p => timesF acc [1, -2 * p]) [1, -4 * m, 4 * m * m + d * d]
theorem product_go (t : Rat) (m d : Int) : ∀ (ps qs : List Int) (acc : List Int), 0 < acc.length → evQ acc t = Fv m d qs t → evW (dw t) acc = DFv m d qs t →
    evQ (ps.foldl (fun acc p => timesF acc [1, -2 * p]) acc) t = Fv m d (ps.reverse ++ qs) t ∧ evW (dw t) (ps.foldl (fun acc p => timesF acc [1, -2 * p]) acc) = DFv m d (ps.reverse ++ qs) t ∧
    (ps.foldl (fun acc p => timesF acc [1, -2 * p]) acc).length = acc.length + ps.length
  | [], qs, acc, _, h1, h2 => ⟨h1, h2, rfl⟩
  | p :: ps, qs, acc, h0, h1, h2 => by
    have e1 : evQ [1, -2 * p] t = t - 2 * (p : Rat) := by
      simp only [evQ, List.foldl_cons, List.foldl_nil, Rat.intCast_mul]
      have : ((1 : Int) : Rat) = 1 := rfl
      have : ((-2 : Int) : Rat) = -2 := rfl
      grind
    have e2 : evW (dw t) [1, -2 * p] = 1 := by
      simp only [evW, List.length_cons, List.length_nil, dw]
      have : ((1 : Int) : Rat) = 1 := rfl
      have : ((0 : Nat) : Rat) = 0 := rfl
      grind
    have ih := product_go t m d ps (p :: qs) (timesF acc [1, -2 * p]) (by rw [timesF_length]; simp <;> omega)
      (by rw [ev_times (by simp) h0, h1, e1]; rfl) (by rw [dev_times (by simp) h0, h1, h2, e1, e2]; simp only [DFv] <;> grind)
    rw [timesF_length] at ih
    simp only [List.foldl_cons, List.reverse_cons, List.append_assoc, List.singleton_append, List.length_cons, List.length_nil] at ih ⊢
    exact ⟨ih.1, ih.2.1, by omega⟩
theorem product_ev (ps : List Int) (m d : Int) (t : Rat) : evQ (productF ps m d) t = Fv m d ps.reverse t ∧ evQ (derivF (productF ps m d)) t = DFv m d ps.reverse t ∧ (productF ps m d).length = 3 + ps.length := by
  have h := product_go t m d ps [] [1, -4 * m, 4 * m * m + d * d] (by simp) (by
    simp only [evQ, List.foldl_cons, List.foldl_nil, Fv, Rat.intCast_mul, Rat.intCast_add]
    have : ((1 : Int) : Rat) = 1 := rfl
    have : ((-4 : Int) : Rat) = -4 := rfl
    have : ((4 : Int) : Rat) = 4 := rfl
    grind) (by
    simp only [evW, List.length_cons, List.length_nil, dw, DFv, Rat.intCast_mul]
    have : ((1 : Int) : Rat) = 1 := rfl
    have : ((-4 : Int) : Rat) = -4 := rfl
    have : ((0 : Nat) : Rat) = 0 := rfl
    have : ((0 + 1 : Nat) : Rat) = 1 := rfl
    grind)
  simp only [List.append_nil] at h
  exact ⟨h.1, by rw [ev_deriv]; exact h.2.1, h.2.2⟩
theorem addRow_head (c : Int) : ∀ (two : List Int) (i : Nat) (acc : List Int), 0 < i → (addRow c two i acc).getD 0 0 = acc.getD 0 0
  | [], _, _, _ => rfl
  | b :: two, i, acc, h => by
    simp only [addRow]
    rw [addRow_head c two (i + 1) _ (by omega)]
    cases acc with
    | nil => rfl
    | cons a acc => cases i with
      | zero => exact absurd h (Nat.lt_irrefl _)
      | succ i => rfl
theorem timesGo_head (two : List Int) : ∀ (one : List Int) (k : Nat) (acc : List Int), 0 < k → (timesGo two one k acc).getD 0 0 = acc.getD 0 0
  | [], _, _, _ => rfl
  | a :: one, k, acc, h => by
    simp only [timesGo]
    rw [timesGo_head two one (k + 1) _ (by omega), addRow_head a two k acc h]
theorem times_head (a c : Int) (one : List Int) : (timesF (a :: one) [1, c]).getD 0 0 = a := by
  simp only [timesF, timesGo, List.length_cons, List.length_nil]
  rw [timesGo_head _ _ _ _ (by omega)]
  simp only [addRow]
  have : one.length + 1 + (0 + 1 + 1) - 1 = one.length + 1 + 1 := by omega
  rw [this]
  simp [List.replicate_succ]
theorem product_head_go (m d : Int) : ∀ (ps acc : List Int), acc.getD 0 0 = 1 → (ps.foldl (fun acc p => timesF acc [1, -2 * p]) acc).getD 0 0 = 1
  | [], _, h => h
  | p :: ps, acc, h => by
    cases acc with
    | nil => simp at h
    | cons a acc =>
      simp only [List.getD_cons_zero] at h
      exact product_head_go m d ps _ (by rw [times_head, h])
theorem product_head (ps : List Int) (m d : Int) : (productF ps m d).getD 0 0 = 1 := product_head_go m d ps _ rfl
end Mine
namespace Mine
noncomputable def restStep (t0 : Int) (rest taken : List Int) : List Int :=
  (List.zipWith (fun r t => (if 0 < t0 then t0 else -t0) * r - (if 0 < t0 then rest.getD 0 0 else -(rest.getD 0 0)) * t) rest taken).tail
noncomputable def restLoop (t0 : Int) (two : List Int) : Nat → List Int → List Int
  | 0, rest => rest
  | n + 1, rest => if two.length ≤ rest.length then restLoop t0 two n (restStep t0 rest (two ++ List.replicate (rest.length - two.length) 0)) else rest
noncomputable def restF (one two : List Int) : List Int := ((restLoop (two.getD 0 0) two (one.length + 1) one).dropWhile (fun c => c == 0)).map (fun c => -c)
theorem evW_zip (w : Nat → Rat) (p q : Int) : ∀ (x y : List Int), x.length = y.length → evW w (List.zipWith (fun r t => p * r - q * t) x y) = (p : Rat) * evW w x - (q : Rat) * evW w y
  | [], [], _ => by simp only [List.zipWith_nil_left, evW]; grind
  | a :: x, [], h => by simp at h
  | [], b :: y, h => by simp at h
  | a :: x, b :: y, h => by
    simp only [List.length_cons, Nat.add_right_cancel_iff] at h
    simp only [List.zipWith_cons_cons, evW, List.length_zipWith, evW_zip w p q x y h, Rat.intCast_sub, Rat.intCast_mul, h, Nat.min_self]
    grind
theorem evW_pad (t : Rat) (k : Nat) : ∀ l : List Int, evW (fun n => t ^ n) (l ++ List.replicate k 0) = evW (fun n => t ^ n) l * t ^ k
  | [] => by rw [List.nil_append, evW_zeros]; simp only [evW]; grind
  | a :: l => by
    simp only [List.cons_append, evW, List.length_append, List.length_replicate, evW_pad t k l]
    grind
theorem powE (k : Nat) : ∃ q : PE, ∀ t, q.ev t = t ^ k := by
  induction k with
  | zero => exact ⟨.c 1, fun t => by simp only [PE.ev]; have : ((1 : Int) : Rat) = 1 := rfl; grind⟩
  | succ k ih =>
    obtain ⟨q, hq⟩ := ih
    exact ⟨.mul q .x, fun t => by simp only [PE.ev, hq]; grind⟩
theorem restStep_ev (t0 : Int) (tl r : List Int) (h : (t0 :: tl).length ≤ r.length) (t : Rat) :
    evQ (restStep t0 r ((t0 :: tl) ++ List.replicate (r.length - (t0 :: tl).length) 0)) t =
      ((if 0 < t0 then t0 else -t0 : Int) : Rat) * evQ r t - ((if 0 < t0 then r.getD 0 0 else -(r.getD 0 0) : Int) : Rat) * (t ^ (r.length - (t0 :: tl).length) * evQ (t0 :: tl) t) := by
  cases r with
  | nil => simp at h
  | cons a r =>
    have hl : (a :: r).length = ((t0 :: tl) ++ List.replicate ((a :: r).length - (t0 :: tl).length) 0).length := by
      rw [List.length_append, List.length_replicate]; omega
    have z := evW_zip (fun n => t ^ n) (if 0 < t0 then t0 else -t0) (if 0 < t0 then (a :: r).getD 0 0 else -((a :: r).getD 0 0)) _ _ hl
    rw [evW_pad] at z
    rw [evQ_eq, evQ_eq, evQ_eq]
    unfold restStep
    have key : ∀ (l l' : List Int), l = (0 : Int) :: l' → evW (fun n => t ^ n) l = evW (fun n => t ^ n) l' := fun l l' e => by
      subst e; simp only [evW]; have : ((0 : Int) : Rat) = 0 := rfl; grind
    have h0 : (if 0 < t0 then t0 else -t0) * a - (if 0 < t0 then (a :: r).getD 0 0 else -((a :: r).getD 0 0)) * t0 = 0 := by
      simp only [List.getD_cons_zero]
      split
      · rw [Int.mul_comm]; omega
      · rw [Int.neg_mul, Int.neg_mul, Int.mul_comm t0 a]; omega
    have hz : List.zipWith (fun r' t => (if 0 < t0 then t0 else -t0) * r' - (if 0 < t0 then (a :: r).getD 0 0 else -((a :: r).getD 0 0)) * t) (a :: r) ((t0 :: tl) ++ List.replicate ((a :: r).length - (t0 :: tl).length) 0) = (0 : Int) :: (List.zipWith (fun r' t => (if 0 < t0 then t0 else -t0) * r' - (if 0 < t0 then (a :: r).getD 0 0 else -((a :: r).getD 0 0)) * t) r (tl ++ List.replicate ((a :: r).length - (t0 :: tl).length) 0)) := by
      rw [List.cons_append, List.zipWith_cons_cons, h0]
    generalize (List.zipWith (fun r' t => (if 0 < t0 then t0 else -t0) * r' - (if 0 < t0 then (a :: r).getD 0 0 else -((a :: r).getD 0 0)) * t) r (tl ++ List.replicate ((a :: r).length - (t0 :: tl).length) 0)) = l' at hz
    rw [hz, List.tail_cons, ← key _ l' hz, z]
    grind
theorem restStep_length (t0 : Int) (two r : List Int) (h : two.length ≤ r.length) : (restStep t0 r (two ++ List.replicate (r.length - two.length) 0)).length = r.length - 1 := by
  unfold restStep
  rw [List.length_tail, List.length_zipWith, List.length_append, List.length_replicate]
  omega
theorem restLoop_ev (t0 : Int) (tl : List Int) (ht : t0 ≠ 0) : ∀ (n : Nat) (r : List Int), ∃ (c : Int) (q : PE), 0 < c ∧ ∀ t, evQ (restLoop t0 (t0 :: tl) n r) t = (c : Rat) * evQ r t - q.ev t * evQ (t0 :: tl) t
  | 0, r => ⟨1, .c 0, by decide, fun t => by
      simp only [restLoop, PE.ev]; have : ((1 : Int) : Rat) = 1 := rfl; have : ((0 : Int) : Rat) = 0 := rfl; grind⟩
  | n + 1, r => by
      unfold restLoop
      by_cases h : (t0 :: tl).length ≤ r.length
      · rw [if_pos h]
        obtain ⟨c, q, hc, e⟩ := restLoop_ev t0 tl ht n (restStep t0 r ((t0 :: tl) ++ List.replicate (r.length - (t0 :: tl).length) 0))
        obtain ⟨pw, hpw⟩ := powE (r.length - (t0 :: tl).length)
        refine ⟨c * (if 0 < t0 then t0 else -t0), .add (.mul (.c (c * (if 0 < t0 then r.getD 0 0 else -(r.getD 0 0)))) pw) q, ?_, fun t => ?_⟩
        · refine Int.mul_pos hc ?_
          split <;> omega
        · rw [e t, restStep_ev t0 tl r h t]
          simp only [PE.ev, Rat.intCast_mul, hpw]
          grind
      · rw [if_neg h]
        exact ⟨1, .c 0, by decide, fun t => by
          simp only [PE.ev]; have : ((1 : Int) : Rat) = 1 := rfl; have : ((0 : Int) : Rat) = 0 := rfl; grind⟩
theorem restLoop_length (t0 : Int) (two : List Int) (h2 : 0 < two.length) : ∀ (n : Nat) (r : List Int), r.length < n → (restLoop t0 two n r).length < two.length
  | 0, r, h => absurd h (Nat.not_lt_zero _)
  | n + 1, r, h => by
      unfold restLoop
      by_cases h3 : two.length ≤ r.length
      · rw [if_pos h3]
        exact restLoop_length t0 two h2 n _ (by rw [restStep_length t0 two r h3]; omega)
      · rw [if_neg h3]; omega
theorem strip_ev (t : Rat) : ∀ l : List Int, evQ (l.dropWhile (fun c => c == 0)) t = evQ l t
  | [] => rfl
  | a :: l => by
    by_cases h : a = 0
    · subst h
      have := strip_ev t l
      rw [evQ_eq, evQ_eq] at this ⊢
      simp only [List.dropWhile_cons, beq_self_eq_true, if_true]
      rw [this]; simp only [evW]; have : ((0 : Int) : Rat) = 0 := rfl; grind
    · have : (a == 0) = false := by simp [h]
      rw [List.dropWhile_cons, this]; simp
theorem neg_ev (t : Rat) (l : List Int) : evQ (l.map (fun c => -c)) t = - evQ l t := by
  rw [evQ_eq, evQ_eq]
  induction l with
  | nil => simp only [List.map_nil, evW]; grind
  | cons a l ih => simp only [List.map_cons, evW, ih, List.length_map, Rat.intCast_neg]; grind
theorem strip_length : ∀ l : List Int, (l.dropWhile (fun c => c == 0)).length ≤ l.length
  | [] => Nat.le_refl _
  | a :: l => by
    rw [List.dropWhile_cons]
    have := strip_length l
    split
    · rw [List.length_cons]; omega
    · exact Nat.le_refl _
theorem strip_head : ∀ l : List Int, l.dropWhile (fun c => c == 0) = [] ∨ ∃ a l', l.dropWhile (fun c => c == 0) = a :: l' ∧ a ≠ 0
  | [] => .inl rfl
  | a :: l => by
    by_cases h : a = 0
    · subst h
      simp only [List.dropWhile_cons, beq_self_eq_true, if_true]
      exact strip_head l
    · refine .inr ⟨a, l, ?_, h⟩
      have : (a == 0) = false := by simp [h]
      rw [List.dropWhile_cons, this]; simp
theorem restF_spec (one : List Int) (t0 : Int) (tl : List Int) (ht : t0 ≠ 0) :
    (∃ (c : Int) (q : PE), 0 < c ∧ ∀ t, (c : Rat) * evQ one t = q.ev t * evQ (t0 :: tl) t - ((1 : Int) : Rat) * evQ (restF one (t0 :: tl)) t) ∧ (restF one (t0 :: tl)).length < (t0 :: tl).length ∧
      (restF one (t0 :: tl) = [] ∨ ∃ a l', restF one (t0 :: tl) = a :: l' ∧ a ≠ 0) := by
  obtain ⟨c, q, hc, e⟩ := restLoop_ev t0 tl ht (one.length + 1) one
  refine ⟨⟨c, q, hc, fun t => ?_⟩, ?_, ?_⟩
  · unfold restF
    rw [neg_ev, strip_ev, List.getD_cons_zero, e t]
    have : ((1 : Int) : Rat) = 1 := rfl
    grind
  · unfold restF
    rw [List.length_map, List.getD_cons_zero]
    exact Nat.lt_of_le_of_lt (strip_length _) (restLoop_length t0 _ (by simp) _ _ (Nat.lt_succ_self _))
  · unfold restF
    rcases strip_head (restLoop ((t0 :: tl).getD 0 0) (t0 :: tl) (one.length + 1) one) with h | ⟨a, l', h, ha⟩
    · exact .inl (by rw [h]; rfl)
    · exact .inr ⟨-a, l'.map (fun c => -c), by rw [h]; rfl, by omega⟩
noncomputable def chainGo : Nat → List Int → List Int → List (List Int)
  | 0, a, b => [a, b]
  | n + 1, a, b => match restF a b with
    | [] => [a, b]
    | r :: l => a :: chainGo n b (r :: l)
theorem chainGo_shape : ∀ (n : Nat) (a b : List Int), ∃ l, chainGo n a b = a :: b :: l
  | 0, a, b => ⟨[], rfl⟩
  | n + 1, a, b => by
    unfold chainGo
    cases restF a b with
    | nil => exact ⟨[], rfl⟩
    | cons r l =>
      obtain ⟨l', h⟩ := chainGo_shape n b (r :: l)
      exact ⟨(r :: l) :: l', by simp only [h]⟩
theorem chainGo_stc : ∀ (n : Nat) (a : List Int) (t0 : Int) (tl : List Int), t0 ≠ 0 → (t0 :: tl).length ≤ n → StC ((chainGo n a (t0 :: tl)).map PE.of)
  | 0, _, _, _, _, h => by simp at h
  | n + 1, a, t0, tl, ht, h => by
    obtain ⟨⟨c, q, hc, e⟩, hl, hh⟩ := restF_spec a t0 tl ht
    unfold chainGo
    rcases hh with hh | ⟨r, l, hh, hr⟩
    · rw [hh] at e ⊢
      refine .two _ _ q c hc fun t => ?_
      rw [PE.of_ev, PE.of_ev, e t]
      have : evQ [] t = 0 := rfl
      rw [this]; grind
    · rw [hh] at e hl ⊢
      obtain ⟨l', hs⟩ := chainGo_shape n (t0 :: tl) (r :: l)
      have ih := chainGo_stc n (t0 :: tl) r l hr (by omega)
      dsimp only
      rw [hs] at ih ⊢
      refine .step _ _ _ q _ c 1 hc (by decide) (fun t => ?_) ih
      rw [PE.of_ev, PE.of_ev, PE.of_ev]
      exact e t
noncomputable def chainF (f : List Int) : List (List Int) := chainGo (f.length + 1) f (derivF f)
noncomputable def signsF (G : List (List Int)) (x : Int) : List Bool := ((G.map fun p => horner p x).filter fun v => decide (v ≠ 0)).map fun v => decide (0 < v)
noncomputable def changesF (G : List (List Int)) (x : Int) : Nat := chg (signsF G x)
theorem signsF_eq (x : Int) : ∀ G : List (List Int), signsF G x = sgs (at_ (G.map PE.of) (x : Rat))
  | [] => rfl
  | p :: G => by
    have ih := signsF_eq x G
    have e : (PE.of p).ev (x : Rat) = ((horner p x : Int) : Rat) := by rw [PE.of_ev, horner_cast]
    have e0 : ((0 : Int) : Rat) = 0 := rfl
    have c : signsF (p :: G) x = if horner p x = 0 then signsF G x else decide (0 < horner p x) :: signsF G x := by
      unfold signsF
      by_cases h : horner p x = 0 <;> simp [h]
    have d : sgs (at_ ((p :: G).map PE.of) (x : Rat)) = if horner p x = 0 then sgs (at_ (G.map PE.of) (x : Rat)) else decide (0 < horner p x) :: sgs (at_ (G.map PE.of) (x : Rat)) := by
      show sgs ((PE.of p).ev (x : Rat) :: at_ (G.map PE.of) (x : Rat)) = _
      rw [e]
      by_cases h : horner p x = 0
      · rw [if_pos h, h]; exact sgs_zero
      · rw [if_neg h]
        by_cases h2 : 0 < horner p x
        · rw [sgs_pos (Rat.intCast_pos.mpr h2)]; simp [h2]
        · rw [sgs_neg (by rw [← e0]; exact Rat.intCast_lt_intCast.mpr (by omega))]; simp [h2]
    rw [c, d, ih]
theorem changesF_eq (G : List (List Int)) (x : Int) : changesF G x = var (at_ (G.map PE.of) (x : Rat)) := by
  unfold changesF var; rw [signsF_eq]
theorem derivF_head : ∀ l : List Int, 2 ≤ l.length → l.getD 0 0 = 1 → ∃ a tl, derivF l = a :: tl ∧ a ≠ 0
  | [], h, _ => by simp at h
  | [_], h, _ => by simp at h
  | a :: b :: l, _, h => ⟨_, _, rfl, by simp only [List.getD_cons_zero] at h; subst h; omega⟩
theorem law_chain (ps : List Int) (m d : Int) : ∃ f g l, (chainF (productF ps m d)).map PE.of = f :: g :: l ∧ StC (f :: g :: l) ∧ (∀ t, f.ev t = Fv m d ps.reverse t) ∧ ∀ t, g.ev t = DFv m d ps.reverse t := by
  have P := product_ev ps m d
  obtain ⟨a, tl, ha, ha0⟩ := derivF_head (productF ps m d) (by rw [(P 0).2.2]; omega) (product_head ps m d)
  obtain ⟨l, hl⟩ := chainGo_shape ((productF ps m d).length + 1) (productF ps m d) (derivF (productF ps m d))
  have st := chainGo_stc ((productF ps m d).length + 1) (productF ps m d) a tl ha0 (by rw [← ha, derivF_length]; omega)
  refine ⟨PE.of (productF ps m d), PE.of (derivF (productF ps m d)), l.map PE.of, ?_, ?_, fun t => ?_, fun t => ?_⟩
  · unfold chainF; rw [hl]; rfl
  · rw [← ha, hl] at st; exact st
  · rw [PE.of_ev]; exact (P t).1
  · rw [PE.of_ev]; exact (P t).2.1
theorem sturm_step (ps : List Int) (m d : Int) (hd : 0 < d) (k : Int) :
    changesF (chainF (productF ps m d)) (2 * k - 1) = changesF (chainF (productF ps m d)) (2 * k + 1) + (if k ∈ ps then 1 else 0) := by
  obtain ⟨f, g, l, e, st, hf, hg⟩ := law_chain ps m d
  rw [changesF_eq, changesF_eq, e]
  have := var_step st hd hf hg k
  simp only [List.mem_reverse] at this
  have e1 : ((2 * k - 1 : Int) : Rat) = 2 * (k : Rat) - 1 := by rw [Rat.intCast_sub, Rat.intCast_mul]; rfl
  have e2 : ((2 * k + 1 : Int) : Rat) = 2 * (k : Rat) + 1 := by rw [Rat.intCast_add, Rat.intCast_mul]; rfl
  rw [e1, e2]; exact this
end Mine
namespace Mine
theorem cofactors {G : List PE} (h : StC G) : ∀ a b G', G = a :: b :: G' → ∃ (u v U V : PE) (s k : Int), 0 < s ∧ k ≠ 0 ∧ ∀ t, (s : Rat) * lastE G t = u.ev t * a.ev t + v.ev t * b.ev t ∧
    U.ev t * a.ev t + V.ev t * b.ev t = 0 ∧ u.ev t * V.ev t - v.ev t * U.ev t = (k : Rat) := by
  induction h with
  | one g => intro a b G' e; cases e
  | two a b q c hc e =>
    intro a' b' G' e'
    cases e'
    refine ⟨.c 0, .c 1, .c c, .mul (.c (-1)) q, 1, -c, by decide, by omega, fun t => ⟨?_, ?_, ?_⟩⟩
    · simp only [PE.ev, lastE] <;> grind
    · have := e t
      have o : ((-1 : Int) : Rat) = -1 := rfl
      simp only [PE.ev]; grind
    · have o : ((1 : Int) : Rat) = 1 := rfl
      have o0 : ((0 : Int) : Rat) = 0 := rfl
      simp only [PE.ev, Rat.intCast_neg]; grind
  | step a b g q l c d hc hd e hG ih =>
    intro a' b' G' e'
    cases e'
    obtain ⟨u, v, U, V, s, k, hs, hk, H⟩ := ih b g l rfl
    refine ⟨.mul (.c (-c)) v, .add (.mul (.c d) u) (.mul v q), .mul (.c (-c)) V, .add (.mul (.c d) U) (.mul V q), d * s, c * d * k, Int.mul_pos hd hs, ?_, fun t => ?_⟩
    · exact Int.mul_ne_zero (Int.mul_ne_zero (by omega) (by omega)) hk
    · obtain ⟨h1, h2, h3⟩ := H t
      have e1 := e t
      have hl : lastE (a :: b :: g :: l) t = lastE (b :: g :: l) t := rfl
      simp only [PE.ev, Rat.intCast_neg, Rat.intCast_mul]
      refine ⟨?_, ?_, ?_⟩
      · rw [hl, Rat.mul_assoc, h1]
        have x1 : -(c : Rat) * v.ev t * a.ev t = - v.ev t * ((c : Rat) * a.ev t) := by grind
        rw [x1, e1]; grind
      · have x1 : -(c : Rat) * V.ev t * a.ev t = - V.ev t * ((c : Rat) * a.ev t) := by grind
        rw [x1, e1]
        have x2 : -V.ev t * (q.ev t * b.ev t - d * g.ev t) + (d * U.ev t + V.ev t * q.ev t) * b.ev t = d * (U.ev t * b.ev t + V.ev t * g.ev t) := by grind
        rw [x2, h2]; grind
      · rw [← h3]; grind
noncomputable def lin (p : Int) : PE := .add .x (.c (-2 * p))
theorem lin_ev (p : Int) (t : Rat) : (lin p).ev t = t - 2 * (p : Rat) := by
  have o : ((-2 : Int) : Rat) = -2 := rfl
  simp only [lin, PE.ev, Rat.intCast_mul]; grind
noncomputable def Rl : List Int → PE
  | [] => .c 1
  | p :: l => .mul (Rl l) (lin p)
noncomputable def DRl : List Int → PE
  | [] => .c 0
  | p :: l => .add (.mul (DRl l) (lin p)) (Rl l)
noncomputable def Qd (m d : Int) : PE := .add (.mul (lin m) (lin m)) (.c (d * d))
theorem Fv_split (m d : Int) (t : Rat) : ∀ ps : List Int, Fv m d ps t = (Qd m d).ev t * (Rl ps).ev t ∧ DFv m d ps t = 2 * (t - 2 * (m : Rat)) * (Rl ps).ev t + (Qd m d).ev t * (DRl ps).ev t
  | [] => by
    have o : ((1 : Int) : Rat) = 1 := rfl
    have o0 : ((0 : Int) : Rat) = 0 := rfl
    simp only [Fv, DFv, Rl, DRl, Qd, PE.ev, lin_ev, Rat.intCast_mul]
    exact ⟨by grind, by grind⟩
  | p :: ps => by
    obtain ⟨h1, h2⟩ := Fv_split m d t ps
    simp only [Fv, DFv, Rl, DRl, PE.ev, lin_ev, h1, h2]
    exact ⟨by grind, by grind⟩
noncomputable def firstsL : List Int → List Int
  | [] => []
  | p :: l => if p ∈ l then firstsL l else p :: firstsL l
noncomputable def againL : List Int → List Int
  | [] => []
  | p :: l => if p ∈ l then p :: againL l else againL l
theorem first_again_length : ∀ l : List Int, (firstsL l).length + (againL l).length = l.length
  | [] => rfl
  | p :: l => by
    have := first_again_length l
    unfold firstsL againL
    split <;> simp only [List.length_cons] <;> omega
theorem mem_firsts : ∀ (l : List Int) (p : Int), p ∈ firstsL l ↔ p ∈ l
  | [], p => Iff.rfl
  | q :: l, p => by
    unfold firstsL
    split
    · rename_i h
      rw [mem_firsts l p, List.mem_cons]
      constructor
      · exact .inr
      · rintro (rfl | x)
        · exact h
        · exact x
    · rw [List.mem_cons, List.mem_cons, mem_firsts l p]
theorem firsts_nodup : ∀ l : List Int, (firstsL l).Nodup
  | [] => List.nodup_nil
  | q :: l => by
    unfold firstsL
    split
    · exact firsts_nodup l
    · rename_i h
      exact List.nodup_cons.mpr ⟨fun x => h ((mem_firsts l q).mp x), firsts_nodup l⟩
theorem Rl_split (t : Rat) : ∀ l : List Int, (Rl l).ev t = (Rl (firstsL l)).ev t * (Rl (againL l)).ev t
  | [] => by simp only [firstsL, againL, Rl, PE.ev]; have o : ((1 : Int) : Rat) = 1 := rfl; grind
  | p :: l => by
    have ih := Rl_split t l
    unfold firstsL againL
    split <;> simp only [Rl, PE.ev, ih] <;> grind
theorem Rl_mem (p : Int) : ∀ l : List Int, p ∈ l → ∃ E : PE, ∀ t, (Rl l).ev t = (lin p).ev t * E.ev t
  | [], h => nomatch h
  | q :: l, h => by
    by_cases e : p = q
    · subst e
      exact ⟨Rl l, fun t => by simp only [Rl, PE.ev]; grind⟩
    · obtain ⟨E, hE⟩ := Rl_mem p l (by
        rcases List.mem_cons.mp h with h | h
        · exact absurd h e
        · exact h)
      exact ⟨.mul E (lin q), fun t => by simp only [Rl, PE.ev, hE]; grind⟩
theorem DRl_again : ∀ l : List Int, ∃ N : PE, ∀ t, (DRl l).ev t = (Rl (againL l)).ev t * N.ev t
  | [] => ⟨.c 0, fun t => by simp only [DRl, againL, Rl, PE.ev]; have o : ((0 : Int) : Rat) = 0 := rfl; grind⟩
  | p :: l => by
    obtain ⟨N, hN⟩ := DRl_again l
    by_cases h : p ∈ l
    · obtain ⟨E, hE⟩ := Rl_mem p (firstsL l) ((mem_firsts l p).mpr h)
      refine ⟨.add N E, fun t => ?_⟩
      have := Rl_split t l
      have hE := hE t
      simp only [DRl, againL, if_pos h, Rl, PE.ev, hN t]
      rw [this, hE]; grind
    · refine ⟨.add (.mul N (lin p)) (Rl (firstsL l)), fun t => ?_⟩
      have := Rl_split t l
      simp only [DRl, againL, if_neg h, Rl, PE.ev, hN t]
      rw [this]; grind
theorem div_lin (p : Int) : ∀ e : PE, ∃ (q : PE) (r : Int), (∀ t, e.ev t = (lin p).ev t * q.ev t + (r : Rat))
  | .c n => ⟨.c 0, n, fun t => by simp only [PE.ev]; have o : ((0 : Int) : Rat) = 0 := rfl; grind⟩
  | .x => ⟨.c 1, 2 * p, fun t => by
      rw [lin_ev]; simp only [PE.ev, Rat.intCast_mul]
      have o : ((1 : Int) : Rat) = 1 := rfl
      have o2 : ((2 : Int) : Rat) = 2 := rfl
      grind⟩
  | .add a b => by
      obtain ⟨q, r, h⟩ := div_lin p a
      obtain ⟨q', r', h'⟩ := div_lin p b
      exact ⟨.add q q', r + r', fun t => by simp only [PE.ev, h t, h' t, Rat.intCast_add]; grind⟩
  | .mul a b => by
      obtain ⟨q, r, h⟩ := div_lin p a
      obtain ⟨q', r', h'⟩ := div_lin p b
      exact ⟨.add (.mul q b) (.mul (.c r) q'), r * r', fun t => by simp only [PE.ev, h t, h' t, Rat.intCast_mul]; grind⟩
theorem root_lin {p : Int} {e : PE} (h : e.ev (2 * (p : Rat)) = 0) : ∃ q : PE, ∀ t, e.ev t = (lin p).ev t * q.ev t := by
  obtain ⟨q, r, hq⟩ := div_lin p e
  have h0 := hq (2 * (p : Rat))
  rw [h, lin_ev] at h0
  have hr : (r : Rat) = 0 := by grind
  exact ⟨q, fun t => by rw [hq t, hr]; grind⟩
theorem roots_lin : ∀ (l : List Int), l.Nodup → ∀ e : PE, (∀ p ∈ l, e.ev (2 * (p : Rat)) = 0) → ∃ q : PE, ∀ t, e.ev t = (Rl l).ev t * q.ev t
  | [], _, e, _ => ⟨e, fun t => by simp only [Rl, PE.ev]; have o : ((1 : Int) : Rat) = 1 := rfl; grind⟩
  | p :: l, hn, e, h => by
    obtain ⟨h1, h2⟩ := List.nodup_cons.mp hn
    obtain ⟨q, hq⟩ := root_lin (h p (.head _))
    obtain ⟨q', hq'⟩ := roots_lin l h2 q fun r hr => by
      have e1 := hq (2 * (r : Rat))
      rw [h r (.tail _ hr), lin_ev] at e1
      have ne : p ≠ r := fun x => h1 (x ▸ hr)
      have far := int_apart ne
      rcases Rat.mul_eq_zero.mp e1.symm with z | z
      · exfalso
        have : (r : Rat) - (p : Rat) = 0 := by grind
        rw [this] at far
        exact absurd far (by decide)
      · exact z
    exact ⟨q', fun t => by rw [hq t, hq' t]; simp only [Rl, PE.ev]; grind⟩
noncomputable def cre (m d : Int) : PE → Int × Int
  | .c n => (n, 0)
  | .x => (2 * m, d)
  | .add a b => ((cre m d a).1 + (cre m d b).1, (cre m d a).2 + (cre m d b).2)
  | .mul a b => ((cre m d a).1 * (cre m d b).1 - (cre m d a).2 * (cre m d b).2, (cre m d a).1 * (cre m d b).2 + (cre m d a).2 * (cre m d b).1)
theorem Qd_ev (m d : Int) (t : Rat) : (Qd m d).ev t = (t - 2 * (m : Rat)) * (t - 2 * (m : Rat)) + (d : Rat) * (d : Rat) := by
  simp only [Qd, PE.ev, lin_ev, Rat.intCast_mul]
theorem div_sq (m d : Int) : ∀ e : PE, ∃ (q : PE) (al be : Int), (∀ t, e.ev t = (Qd m d).ev t * q.ev t + (al : Rat) * t + (be : Rat)) ∧ (cre m d e).1 = be + 2 * m * al ∧ (cre m d e).2 = d * al
  | .c n => ⟨.c 0, 0, n, fun t => by simp only [PE.ev]; have o : ((0 : Int) : Rat) = 0 := rfl; grind, by simp only [cre]; omega, by simp only [cre]; omega⟩
  | .x => ⟨.c 0, 1, 0, fun t => by
      simp only [PE.ev]; have o : ((0 : Int) : Rat) = 0 := rfl; have o : ((1 : Int) : Rat) = 1 := rfl; grind, by simp only [cre]; omega, by simp only [cre]; omega⟩
  | .add a b => by
      obtain ⟨q, al, be, h, c1, c2⟩ := div_sq m d a
      obtain ⟨q', al', be', h', c1', c2'⟩ := div_sq m d b
      exact ⟨.add q q', al + al', be + be', fun t => by simp only [PE.ev, h t, h' t, Rat.intCast_add]; grind, by simp only [cre, c1, c1']; grind, by simp only [cre, c2, c2']; grind⟩
  | .mul a b => by
      obtain ⟨q, al, be, h, c1, c2⟩ := div_sq m d a
      obtain ⟨q', al', be', h', c1', c2'⟩ := div_sq m d b
      refine ⟨.add (.add (.mul q b) (.mul (.add (.mul (.c al) .x) (.c be)) q')) (.c (al * al')), al * be' + be * al' + 4 * m * (al * al'), be * be' - (4 * m * m + d * d) * (al * al'), fun t => ?_, ?_, ?_⟩
      · have o : ((4 : Int) : Rat) = 4 := rfl
        simp only [PE.ev, h t, h' t, Qd_ev, Rat.intCast_add, Rat.intCast_mul, Rat.intCast_sub]; grind
      · simp only [cre, c1, c1', c2, c2']; grind
      · simp only [cre, c1, c1', c2, c2']; grind
theorem intCast_inj' {a b : Int} (h : (a : Rat) = (b : Rat)) : a = b := Rat.intCast_inj.mp h
theorem cre_zero {m d : Int} (hd : 0 < d) {e s : PE} (h : ∀ t, e.ev t = (Qd m d).ev t * s.ev t) : (cre m d e).1 = 0 ∧ (cre m d e).2 = 0 := by
  obtain ⟨q, al, be, hq, c1, c2⟩ := div_sq m d e
  -- at each whole number k far out, Q divides al k + be
  have key : ∀ k : Int, (al * k + be).natAbs < ((k - 2 * m) * (k - 2 * m) + d * d).natAbs → al * k + be = 0 := fun k hk => by
    obtain ⟨x, hx⟩ := PE.int k s
    obtain ⟨y, hy⟩ := PE.int k q
    have e1 := h (k : Rat)
    rw [hq (k : Rat), hx, hy, Qd_ev] at e1
    have e2 : al * k + be = ((k - 2 * m) * (k - 2 * m) + d * d) * (x - y) := by
      apply intCast_inj'
      simp only [Rat.intCast_add, Rat.intCast_mul, Rat.intCast_sub]
      have o : ((2 : Int) : Rat) = 2 := rfl
      rw [o]; grind
    by_cases hz : x - y = 0
    · rw [e2, hz, Int.mul_zero]
    · exfalso
      rw [e2, Int.natAbs_mul] at hk
      have : 1 ≤ (x - y).natAbs := by omega
      have := Nat.le_mul_of_pos_right ((k - 2 * m) * (k - 2 * m) + d * d).natAbs this
      omega
  have far : ∀ k : Int, k = 2 * m + (al.natAbs + be.natAbs + (al * (2 * m)).natAbs + 1 : Nat) ∨ k = 2 * m + (al.natAbs + be.natAbs + (al * (2 * m)).natAbs + 2 : Nat) → al * k + be = 0 := fun k hk => by
    refine key k ?_
    obtain ⟨j, hj, hj1⟩ : ∃ j : Nat, k = 2 * m + j ∧ al.natAbs + be.natAbs + (al * (2 * m)).natAbs + 1 ≤ j := by
      rcases hk with q | q
      · exact ⟨_, q, Nat.le_refl _⟩
      · exact ⟨_, q, by omega⟩
    have e1 : k - 2 * m = (j : Int) := by omega
    rw [e1]
    have e2 : al * k + be = al * (2 * m) + al * j + be := by rw [hj]; grind
    rw [e2]
    have b1 : ((j : Int) * j + d * d).natAbs = j * j + (d * d).natAbs := by
      rw [Int.natAbs_add_of_nonneg (Int.mul_nonneg (by omega) (by omega)) (Int.mul_nonneg (by omega) (by omega)), Int.natAbs_mul]; simp
    rw [b1]
    have b2 : (al * (2 * m) + al * (j : Int) + be).natAbs ≤ (al * (2 * m)).natAbs + al.natAbs * j + be.natAbs := by
      have x1 := Int.natAbs_add_le (al * (2 * m) + al * (j : Int)) be
      have x2 := Int.natAbs_add_le (al * (2 * m)) (al * (j : Int))
      rw [Int.natAbs_mul al (j : Int)] at x2
      have : (j : Int).natAbs = j := by simp
      rw [this] at x2
      omega
    have b3 : al.natAbs * j + (be.natAbs + (al * (2 * m)).natAbs + 1) * 1 ≤ j * j := by
      have x1 : (al.natAbs + (be.natAbs + (al * (2 * m)).natAbs + 1)) * j ≤ j * j := Nat.mul_le_mul_right j (by omega)
      have x2 : (be.natAbs + (al * (2 * m)).natAbs + 1) * 1 ≤ (be.natAbs + (al * (2 * m)).natAbs + 1) * j := Nat.mul_le_mul_left _ (by omega)
      rw [Nat.add_mul] at x1
      omega
    omega
  have f1 := far _ (.inl rfl)
  have f2 := far _ (.inr rfl)
  have al0 : al = 0 := by
    have : ((al.natAbs + be.natAbs + (al * (2 * m)).natAbs + 2 : Nat) : Int) = ((al.natAbs + be.natAbs + (al * (2 * m)).natAbs + 1 : Nat) : Int) + 1 := by omega
    rw [this] at f2
    have : al * (2 * m + (((al.natAbs + be.natAbs + (al * (2 * m)).natAbs + 1 : Nat) : Int) + 1)) + be = al * (2 * m + ((al.natAbs + be.natAbs + (al * (2 * m)).natAbs + 1 : Nat) : Int)) + be + al := by grind
    omega
  subst al0
  have be0 : be = 0 := by omega
  subst be0
  exact ⟨by rw [c1]; omega, by rw [c2]; omega⟩
end Mine
namespace Mine
theorem near_root {m d : Int} {ps : List Int} {f g : PE} (hd : 0 < d) (hf : ∀ t, f.ev t = Fv m d ps t) (hg : ∀ t, g.ev t = DFv m d ps t) {k : Int} (hk : k ∈ ps) : ∃ D : Rat, 0 < D ∧ Near f g (2 * (k : Rat)) D := by
  have len0 : (0 : Rat) ≤ ((ps.length : Nat) : Rat) := int_le_rat (a := 0) (b := (ps.length : Int)) (by omega)
  refine ⟨1 / (2 * ((ps.length : Nat) + 1 : Rat)), div_pos' (by decide) (by grind (ematch := 0)), fun t ht hD => ?_⟩
  have pos2 : (0 : Rat) < 2 * ((ps.length : Nat) + 1 : Rat) := by grind (ematch := 0)
  have e1 := mul_div_self' (a := 1) pos2
  have e2 := Rat.mul_le_mul_of_nonneg_left hD (c := 2 * ((ps.length : Nat) + 1 : Rat)) (by grind (ematch := 0))
  rw [e1] at e2
  have a0 := ab_nonneg (t - 2 * (k : Rat))
  have m0 := mul_nn len0 a0
  have hle1 : ab (t - 2 * (k : Rat)) ≤ 1 := by grind (ematch := 0)
  obtain ⟨n0, w, we, wl⟩ := Fv_near m d k hd ht hle1 ps
  rw [hf, hg]
  refine ⟨n0, w, ?_, we⟩
  have c1 : (1 : Rat) ≤ ((ps.count k : Nat) : Rat) := by
    have : 0 < ps.count k := List.count_pos_iff.mpr hk
    have := int_le_rat (a := 1) (b := (ps.count k : Int)) (by omega)
    exact this
  grind (ematch := 0)
theorem cof_root {f g U V : PE} {r D : Rat} (hD : 0 < D) (near : Near f g r D) (h : ∀ t, U.ev t * f.ev t + V.ev t * g.ev t = 0) : V.ev r = 0 := by
  obtain ⟨L, hL, hLr⟩ : ∃ L : Rat, 0 < L ∧ ab r + D ≤ L := ⟨ab r + D, by have := ab_nonneg r; grind (ematch := 0), by grind (ematch := 0)⟩
  have inL : ∀ t, ab (t - r) ≤ D → ab t ≤ L := fun t ht => by
    have := ab_add (t - r) r
    have e : t - r + r = t := by grind (ematch := 0)
    rw [e] at this
    grind (ematch := 0)
  obtain ⟨KU, hKU, hU1, _⟩ := PE.nice L hL U
  obtain ⟨KV, hKV, _, hV2⟩ := PE.nice L hL V
  have rr : ab (r - r) ≤ D := by
    have : r - r = 0 := by grind (ematch := 0)
    rw [this]; unfold ab; grind (ematch := 0)
  refine zero_of_small hD (C := KV + 2 * KU) (by grind (ematch := 0)) fun x hx hxD => ?_
  have e2 : r + x - r = x := by grind (ematch := 0)
  have d1 : ab (r + x - r) ≤ D := by rw [e2]; unfold ab; grind (ematch := 0)
  obtain ⟨n0, w, hw, we⟩ := near (r + x) (by grind (ematch := 0)) d1
  have hh := h (r + x)
  rw [e2] at we
  have key : V.ev (r + x) * w = - (U.ev (r + x) * x) := by
    have : f.ev (r + x) * (V.ev (r + x) * w + U.ev (r + x) * x) = 0 := by
      have a1 : f.ev (r + x) * (V.ev (r + x) * w + U.ev (r + x) * x) = V.ev (r + x) * (f.ev (r + x) * w) + U.ev (r + x) * f.ev (r + x) * x := by grind (ematch := 0)
      rw [a1, ← we]
      have a2 : V.ev (r + x) * (g.ev (r + x) * x) + U.ev (r + x) * f.ev (r + x) * x = (U.ev (r + x) * f.ev (r + x) + V.ev (r + x) * g.ev (r + x)) * x := by grind (ematch := 0)
      rw [a2, hh]; grind (ematch := 0)
    rcases Rat.mul_eq_zero.mp this with z | z
    · exact absurd z n0
    · grind (ematch := 0)
  have k1 := congrArg ab key
  have k2 : ab (-(U.ev (r + x) * x)) = ab (U.ev (r + x)) * x := by
    have : ab (-(U.ev (r + x) * x)) = ab (U.ev (r + x) * x) := by unfold ab; grind (ematch := 0)
    rw [this, ab_mul]
    have : ab x = x := by unfold ab; grind (ematch := 0)
    rw [this]
  rw [ab_mul, k2] at k1
  have k3 : ab w = w := by unfold ab; grind (ematch := 0)
  rw [k3] at k1
  have k4 := Rat.mul_le_mul_of_nonneg_left hw (c := ab (V.ev (r + x))) (ab_nonneg _)
  have k5 := Rat.mul_le_mul_of_nonneg_right (hU1 (r + x) (inL _ d1)) (c := x) (by grind (ematch := 0))
  have k6 := hV2 r (r + x) (inL _ rr) (inL _ d1)
  have k7 : ab (r - (r + x)) = x := by unfold ab; grind (ematch := 0)
  rw [k7] at k6
  have k8 := ab_add (V.ev r - V.ev (r + x)) (V.ev (r + x))
  have k9 : V.ev r - V.ev (r + x) + V.ev (r + x) = V.ev r := by grind (ematch := 0)
  rw [k9] at k8
  grind (ematch := 0)
noncomputable def nrm (z : Int × Int) : Int := z.1 * z.1 + z.2 * z.2
theorem nrm_mul (m d : Int) (a b : PE) : nrm (cre m d (.mul a b)) = nrm (cre m d a) * nrm (cre m d b) := by simp only [nrm, cre]; grind
theorem nrm_nn (z : Int × Int) : 0 ≤ nrm z := by
  have h : ∀ x : Int, 0 ≤ x * x := fun x => by
    rcases Int.le_total 0 x with q | q
    · exact Int.mul_nonneg q q
    · exact Int.mul_nonneg_of_nonpos_of_nonpos q q
  have := h z.1; have := h z.2
  simp only [nrm]; omega
theorem nrm_pos {z : Int × Int} (h : z.2 ≠ 0) : 0 < nrm z := by
  have h1 : ∀ x : Int, 0 ≤ x * x := fun x => by
    rcases Int.le_total 0 x with q | q
    · exact Int.mul_nonneg q q
    · exact Int.mul_nonneg_of_nonpos_of_nonpos q q
  have a := h1 z.1; have b := h1 z.2
  have c : z.2 * z.2 ≠ 0 := Int.mul_ne_zero h h
  simp only [nrm]; omega
theorem nrm_zero {z : Int × Int} (h : nrm z = 0) : z.1 = 0 ∧ z.2 = 0 := by
  have h1 : ∀ x : Int, 0 ≤ x * x := fun x => by
    rcases Int.le_total 0 x with q | q
    · exact Int.mul_nonneg q q
    · exact Int.mul_nonneg_of_nonpos_of_nonpos q q
  have a := h1 z.1; have b := h1 z.2
  simp only [nrm] at h
  refine ⟨?_, ?_⟩
  · rcases Int.mul_eq_zero.mp (show z.1 * z.1 = 0 by omega) with q | q <;> exact q
  · rcases Int.mul_eq_zero.mp (show z.2 * z.2 = 0 by omega) with q | q <;> exact q
theorem nrm_lin {m d p : Int} (hd : 0 < d) : 0 < nrm (cre m d (lin p)) := nrm_pos (by simp only [lin, cre]; omega)
theorem nrm_Rl {m d : Int} (hd : 0 < d) : ∀ l : List Int, 0 < nrm (cre m d (Rl l))
  | [] => by simp only [Rl, cre, nrm]; omega
  | p :: l => by
    rw [Rl, nrm_mul]
    exact Int.mul_pos (nrm_Rl hd l) (nrm_lin hd)
theorem cof_bears {m d : Int} {ps : List Int} {f g U V : PE} (hd : 0 < d) (hf : ∀ t, f.ev t = Fv m d ps t) (hg : ∀ t, g.ev t = DFv m d ps t) (h : ∀ t, U.ev t * f.ev t + V.ev t * g.ev t = 0) :
    ∃ z : PE, ∀ t, V.ev t = (Qd m d).ev t * (Rl (firstsL ps)).ev t * z.ev t := by
  -- off the line
  have c0 : (cre m d (.mul (.mul V (.mul (.c 2) (lin m))) (Rl ps))).1 = 0 ∧ (cre m d (.mul (.mul V (.mul (.c 2) (lin m))) (Rl ps))).2 = 0 := by
    refine cre_zero hd (s := .mul (.c (-1)) (.add (.mul V (DRl ps)) (.mul U (Rl ps)))) fun t => ?_
    have e := h t
    rw [hf, hg, (Fv_split m d t ps).1, (Fv_split m d t ps).2] at e
    have o : ((-1 : Int) : Rat) = -1 := rfl
    have o2 : ((2 : Int) : Rat) = 2 := rfl
    simp only [PE.ev, lin_ev, o, o2]
    grind
  have n0 : nrm (cre m d V) = 0 := by
    have : nrm (cre m d (.mul (.mul V (.mul (.c 2) (lin m))) (Rl ps))) = 0 := by simp only [nrm, c0.1, c0.2]; rfl
    rw [nrm_mul, nrm_mul, nrm_mul] at this
    have p1 := nrm_Rl (m := m) hd ps
    have p2 := nrm_lin (m := m) (p := m) hd
    have p3 : 0 < nrm (cre m d (.c 2)) := by simp only [nrm, cre]; omega
    rcases Int.mul_eq_zero.mp this with q | q
    · rcases Int.mul_eq_zero.mp q with q | q
      · exact q
      · have := Int.mul_pos p3 p2; omega
    · omega
  obtain ⟨z1, z2⟩ := nrm_zero n0
  obtain ⟨q, al, be, hq, c1, c2⟩ := div_sq m d V
  have al0 : al = 0 := by
    rcases Int.mul_eq_zero.mp (show d * al = 0 by omega) with x | x
    · omega
    · exact x
  subst al0
  have be0 : be = 0 := by omega
  subst be0
  have o0 : ((0 : Int) : Rat) = 0 := rfl
  have hV : ∀ t, V.ev t = (Qd m d).ev t * q.ev t := fun t => by rw [hq t, o0]; grind
  obtain ⟨z, hz⟩ := roots_lin (firstsL ps) (firsts_nodup ps) q fun p hp => by
    obtain ⟨D, hD, near⟩ := near_root hd hf hg ((mem_firsts ps p).mp hp)
    have v0 := cof_root hD near h
    rw [hV] at v0
    rcases Rat.mul_eq_zero.mp v0 with x | x
    · exfalso
      rw [Qd_ev] at x
      have := sq_nn (2 * (p : Rat) - 2 * (m : Rat))
      have := one_le_sq hd
      grind (ematch := 0)
    · exact x
  exact ⟨z, fun t => by rw [hV t, hz t]; grind⟩
noncomputable def sumAbs : List Int → Nat
  | [] => 0
  | a :: l => a.natAbs + sumAbs l
theorem horner_cons (a : Int) (l : List Int) (x : Int) : horner (a :: l) x = a * x ^ l.length + horner l x := by
  apply intCast_inj'
  rw [horner_cast, Rat.intCast_add, Rat.intCast_mul, Rat.intCast_pow, horner_cast, evQ_eq, evQ_eq]; rfl
theorem horner_le (k : Nat) (hk : 1 ≤ k) : ∀ l : List Int, (horner l k).natAbs ≤ sumAbs l * k ^ (l.length - 1)
  | [] => by simp [horner]
  | a :: l => by
    rw [horner_cons]
    have ih := horner_le k hk l
    have h1 := Int.natAbs_add_le (a * (k : Int) ^ l.length) (horner l k)
    rw [Int.natAbs_mul, Int.natAbs_pow] at h1
    have h2 : ((k : Int)).natAbs = k := by simp
    rw [h2] at h1
    simp only [sumAbs, List.length_cons, Nat.add_sub_cancel, Nat.add_mul]
    have h3 : k ^ (l.length - 1) ≤ k ^ l.length := Nat.pow_le_pow_right hk (by omega)
    have h4 := Nat.mul_le_mul_left (sumAbs l) h3
    omega
theorem horner_ge (a : Int) (ha : a ≠ 0) (l : List Int) (k : Nat) (hk : 2 * sumAbs l + 1 ≤ k) : k ^ l.length ≤ 2 * (horner (a :: l) k).natAbs := by
  rw [horner_cons]
  have h0 := horner_le k (by omega) l
  have h2 : ((k : Int)).natAbs = k := by simp
  have h1 : k ^ l.length ≤ (a * (k : Int) ^ l.length).natAbs := by
    rw [Int.natAbs_mul, Int.natAbs_pow, h2]
    exact Nat.le_mul_of_pos_left _ (by omega)
  have h3 : (a * (k : Int) ^ l.length).natAbs ≤ (a * (k : Int) ^ l.length + horner l k).natAbs + (horner l k).natAbs := by omega
  cases l with
  | nil => simp [horner] at h0 h1 h3 ⊢; omega
  | cons b l =>
    simp only [List.length_cons, Nat.add_sub_cancel] at h0 h1 h3 hk ⊢
    have h4 : (2 * sumAbs (b :: l)) * k ^ l.length ≤ k * k ^ l.length := Nat.mul_le_mul_right _ (by omega)
    have h5 : k ^ (l.length + 1) = k * k ^ l.length := by rw [Nat.pow_succ, Nat.mul_comm]
    rw [Nat.mul_assoc] at h4
    omega
theorem growth (a b : Int) (ha : a ≠ 0) (l l' : List Int) (C K : Nat) (h : ∀ k : Nat, K ≤ k → (horner (a :: l) k).natAbs ≤ C * (horner (b :: l') k).natAbs) : l.length ≤ l'.length := by
  by_cases q : l.length ≤ l'.length
  · exact q
  · exfalso
    obtain ⟨k, hk1, hk2, hk3⟩ : ∃ k : Nat, K ≤ k ∧ 2 * sumAbs l + 1 ≤ k ∧ 2 * (C * sumAbs (b :: l')) < k := ⟨K + (2 * sumAbs l + 1) + (2 * (C * sumAbs (b :: l')) + 1), by omega, by omega, by omega⟩
    have e1 := horner_ge a ha l k hk2
    have e2 := h k hk1
    have e3 := horner_le k (by omega) (b :: l')
    simp only [List.length_cons, Nat.add_sub_cancel] at e3
    have e4 : k ^ (l'.length + 1) ≤ k ^ l.length := Nat.pow_le_pow_right (by omega) (by omega)
    have e5 : k ^ (l'.length + 1) = k * k ^ l'.length := by rw [Nat.pow_succ, Nat.mul_comm]
    have e6 : 0 < k ^ l'.length := Nat.pow_pos (by omega)
    have e7 := Nat.mul_le_mul_left C e3
    have e8 : k * k ^ l'.length ≤ 2 * (C * sumAbs (b :: l')) * k ^ l'.length := by
      have : 2 * (C * sumAbs (b :: l')) * k ^ l'.length = 2 * (C * (sumAbs (b :: l') * k ^ l'.length)) := by
        rw [Nat.mul_assoc, Nat.mul_assoc]
      rw [this]; omega
    have := Nat.le_of_mul_le_mul_right e8 e6
    omega
theorem Rl_list : ∀ l : List Int, ∃ tl : List Int, tl.length = l.length ∧ ∀ t, (Rl l).ev t = evQ (1 :: tl) t
  | [] => ⟨[], rfl, fun t => by simp only [Rl, PE.ev, evQ, List.foldl_cons, List.foldl_nil]; have o : ((1 : Int) : Rat) = 1 := rfl; grind⟩
  | p :: l => by
    obtain ⟨tl, h1, h2⟩ := Rl_list l
    have hl := timesF_length (1 :: tl) [1, -2 * p]
    have hh := times_head 1 (-2 * p) tl
    cases hT : timesF (1 :: tl) [1, -2 * p] with
    | nil => rw [hT] at hl; simp at hl
    | cons b tl' =>
      rw [hT] at hl hh
      simp only [List.getD_cons_zero] at hh
      subst hh
      refine ⟨tl', by simp only [List.length_cons, List.length_nil] at hl ⊢; omega, fun t => ?_⟩
      rw [← hT, ev_times (by simp) (by simp), ← h2]
      have : evQ [1, -2 * p] t = t - 2 * (p : Rat) := by
        simp only [evQ, List.foldl_cons, List.foldl_nil, Rat.intCast_mul]
        have : ((1 : Int) : Rat) = 1 := rfl
        have : ((-2 : Int) : Rat) = -2 := rfl
        grind
      rw [this]; simp only [Rl, PE.ev, lin_ev]
theorem lastE_of : ∀ (G : List (List Int)), G ≠ [] → ∀ t, lastE (G.map PE.of) t = evQ (G.getLast?.getD []) t
  | [], h, _ => absurd rfl h
  | [p], _, t => by simp only [List.map_cons, List.map_nil, lastE, PE.of_ev]; rfl
  | p :: q :: G, _, t => by
    have := lastE_of (q :: G) (by simp) t
    simp only [List.map_cons, lastE] at this ⊢
    rw [this]; simp [List.getLast?_cons_cons]
theorem chainGo_last : ∀ (n : Nat) (a : List Int) (t0 : Int) (tl : List Int), t0 ≠ 0 → ∃ b l, (chainGo n a (t0 :: tl)).getLast? = some (b :: l) ∧ b ≠ 0
  | 0, a, t0, tl, h => ⟨t0, tl, rfl, h⟩
  | n + 1, a, t0, tl, h => by
    obtain ⟨_, _, hh⟩ := restF_spec a t0 tl h
    unfold chainGo
    rcases hh with hh | ⟨r, l, hh, hr⟩
    · rw [hh]; exact ⟨t0, tl, rfl, h⟩
    · rw [hh]
      obtain ⟨b, l', e, hb⟩ := chainGo_last n (t0 :: tl) r l hr
      refine ⟨b, l', ?_, hb⟩
      obtain ⟨l'', hs⟩ := chainGo_shape n (t0 :: tl) (r :: l)
      dsimp only
      rw [hs] at e ⊢
      rw [List.getLast?_cons_cons]; exact e
theorem last_size (ps : List Int) (m d : Int) (hd : 0 < d) : ∃ g, (chainF (productF ps m d)).getLast? = some g ∧ g.length = 1 + (againL ps.reverse).length := by
  have P := product_ev ps m d
  obtain ⟨a0, tl0, ha, ha0⟩ := derivF_head (productF ps m d) (by rw [(P 0).2.2]; omega) (product_head ps m d)
  obtain ⟨b, l, hlast, hb⟩ := chainGo_last ((productF ps m d).length + 1) (productF ps m d) a0 tl0 ha0
  have hlast' : (chainF (productF ps m d)).getLast? = some (b :: l) := by unfold chainF; rw [ha]; exact hlast
  refine ⟨b :: l, hlast', ?_⟩
  obtain ⟨f, g, G', e, st, hf, hg⟩ := law_chain ps m d
  have hl : ∀ t, lastE (f :: g :: G') t = evQ (b :: l) t := fun t => by
    rw [← e, lastE_of _ (fun q => by rw [q] at hlast'; cases hlast') t, hlast']; rfl
  generalize ps.reverse = qs at hf hg
  obtain ⟨u, v, U, V, s, k, hs, hk, H⟩ := cofactors st f g G' rfl
  obtain ⟨z, hz⟩ := cof_bears hd hf hg fun t => (H t).2.1
  obtain ⟨N, hN⟩ := DRl_again qs
  obtain ⟨tl, htl, hR⟩ := Rl_list (againL qs)
  -- far out, the last and the repeated factors are within a factor of one another
  have main : ∀ x : Int, (∀ p ∈ qs, 2 * p < x) → (horner (b :: l) x).natAbs ≤ (s.natAbs * k.natAbs) * (horner (1 :: tl) x).natAbs ∧ (horner (1 :: tl) x).natAbs ≤ (s.natAbs * k.natAbs) * (horner (b :: l) x).natAbs := fun x hx => by
    obtain ⟨h1, h2, h3⟩ := H (x : Rat)
    have hf0 : Fv m d qs (x : Rat) ≠ 0 := by
      obtain ⟨e0, he0, low⟩ := Fv_low m d hd (η := 1) (by decide) qs
      have := low (x : Rat) fun p hp => by
        have := int_apart (r := x) (p := 2 * p) (by have := hx p hp; omega)
        rw [Rat.intCast_mul] at this
        exact this
      intro q
      rw [q] at this
      have z : ab 0 = 0 := by unfold ab; grind
      grind
    rw [hl, ← horner_cast] at h1
    have hfx := hf (x : Rat)
    have hgx := hg (x : Rat)
    have sp := Fv_split m d (x : Rat) qs
    have rs := Rl_split (x : Rat) qs
    have hzx := hz (x : Rat)
    have hNx := hN (x : Rat)
    have hRx := hR (x : Rat)
    rw [← horner_cast] at hRx
    obtain ⟨uZ, hu⟩ := PE.int x u
    obtain ⟨vZ, hv⟩ := PE.int x v
    obtain ⟨zZ, hzZ⟩ := PE.int x z
    obtain ⟨nZ, hn⟩ := PE.int x N
    obtain ⟨qZ, hqZ⟩ := PE.int x (Qd m d)
    obtain ⟨fZ, hfZ⟩ := PE.int x (Rl (firstsL qs))
    rw [hRx] at rs hNx
    rw [hu, hv] at h1 h3
    rw [hqZ, hfZ, hzZ] at hzx
    rw [hfZ] at rs
    rw [hn] at hNx
    rw [hqZ] at sp
    rw [rs, hNx] at sp
    rw [sp.1] at hfx
    rw [sp.2] at hgx
    rw [hfx, hgx] at h1 h2
    rw [hzx] at h2 h3
    generalize U.ev (x : Rat) = Ux at h2 h3
    have hPhi : (qZ : Rat) * ((fZ : Rat) * (horner (1 :: tl) x : Rat)) ≠ 0 := by rw [← sp.1]; exact hf0
    have hR0 : (horner (1 :: tl) x : Rat) ≠ 0 := fun q => hPhi (by rw [q]; grind)
    have hq0 : (qZ : Rat) ≠ 0 := fun q => hPhi (by rw [q]; grind)
    have hf1 : (fZ : Rat) ≠ 0 := fun q => hPhi (by rw [q]; grind)
    generalize hRR : horner (1 :: tl) x = R at *
    generalize horner (b :: l) x = T at *
    -- s T z = k R
    have c1 : (s : Rat) * T * zZ = k * R := by
      have : (qZ : Rat) * fZ * ((s : Rat) * T * zZ - k * R) = 0 := by
        rw [← h3, h1]
        have x1 : (qZ : Rat) * fZ * ((uZ * (qZ * (fZ * R)) + vZ * (2 * (x - 2 * m) * (fZ * R) + qZ * (R * nZ))) * zZ - (uZ * (qZ * fZ * zZ) - vZ * Ux) * R)
          = vZ * (Ux * (qZ * (fZ * R)) + qZ * fZ * zZ * (2 * (x - 2 * m) * (fZ * R) + qZ * (R * nZ))) := by grind
        rw [x1, h2]; grind
      rcases Rat.mul_eq_zero.mp this with y | y
      · rcases Rat.mul_eq_zero.mp y with y | y
        · exact absurd y hq0
        · exact absurd y hf1
      · grind
    -- z divides k
    have c2 : (zZ : Rat) * (uZ * (qZ * fZ) + vZ * (2 * (x - 2 * m) * fZ + qZ * nZ)) = k := by
      have : (R : Rat) * (qZ * fZ) * ((zZ : Rat) * (uZ * (qZ * fZ) + vZ * (2 * (x - 2 * m) * fZ + qZ * nZ)) - k) = 0 := by
        rw [← h3]
        have x1 : (R : Rat) * (qZ * fZ) * ((zZ : Rat) * (uZ * (qZ * fZ) + vZ * (2 * (x - 2 * m) * fZ + qZ * nZ)) - (uZ * (qZ * fZ * zZ) - vZ * Ux))
          = vZ * (Ux * (qZ * (fZ * R)) + qZ * fZ * zZ * (2 * (x - 2 * m) * (fZ * R) + qZ * (R * nZ))) := by grind
        rw [x1, h2]; grind
      rcases Rat.mul_eq_zero.mp this with y | y
      · rcases Rat.mul_eq_zero.mp y with y | y
        · exact absurd y hR0
        · rcases Rat.mul_eq_zero.mp y with y | y
          · exact absurd y hq0
          · exact absurd y hf1
      · grind
    have d1 : s * T * zZ = k * R := intCast_inj' (by rw [Rat.intCast_mul, Rat.intCast_mul, Rat.intCast_mul]; exact c1)
    have d2 : zZ * (uZ * (qZ * fZ) + vZ * (2 * (x - 2 * m) * fZ + qZ * nZ)) = k := intCast_inj' (by
      simp only [Rat.intCast_mul, Rat.intCast_add, Rat.intCast_sub]; exact c2)
    have z0 : zZ ≠ 0 := fun q => by rw [q, Int.zero_mul] at d2; exact hk d2.symm
    have zk : zZ.natAbs ≤ k.natAbs := by
      rw [← d2, Int.natAbs_mul]
      refine Nat.le_mul_of_pos_right _ ?_
      have : (uZ * (qZ * fZ) + vZ * (2 * (x - 2 * m) * fZ + qZ * nZ)) ≠ 0 := fun q => by rw [q, Int.mul_zero] at d2; exact hk d2.symm
      omega
    have d3 := congrArg Int.natAbs d1
    rw [Int.natAbs_mul, Int.natAbs_mul, Int.natAbs_mul] at d3
    have s1 : 1 ≤ s.natAbs := by omega
    have z1 : 1 ≤ zZ.natAbs := by omega
    have k1 : 1 ≤ k.natAbs := by omega
    refine ⟨?_, ?_⟩
    · have a1 : T.natAbs ≤ s.natAbs * T.natAbs * zZ.natAbs := by
        have := Nat.mul_le_mul (Nat.mul_le_mul s1 (Nat.le_refl T.natAbs)) z1
        omega
      rw [d3] at a1
      have a2 : k.natAbs * R.natAbs ≤ s.natAbs * k.natAbs * R.natAbs := by
        rw [Nat.mul_assoc]; exact Nat.le_mul_of_pos_left _ s1
      omega
    · have a1 : R.natAbs ≤ k.natAbs * R.natAbs := Nat.le_mul_of_pos_left _ k1
      rw [← d3] at a1
      have a2 : s.natAbs * T.natAbs * zZ.natAbs ≤ s.natAbs * T.natAbs * k.natAbs := Nat.mul_le_mul_left _ zk
      have a3 : s.natAbs * T.natAbs * k.natAbs = s.natAbs * k.natAbs * T.natAbs := by rw [Nat.mul_assoc, Nat.mul_comm T.natAbs, ← Nat.mul_assoc]
      omega
  obtain ⟨K, hK⟩ : ∃ K : Nat, ∀ p ∈ qs, 2 * p < (K : Int) := by
    clear hf hg H hz hN hR main hl htl tl N
    induction qs with
    | nil => exact ⟨0, fun p hp => nomatch hp⟩
    | cons q qs ih =>
      obtain ⟨K, hK⟩ := ih
      refine ⟨K + (2 * q).natAbs + 1, fun p hp => ?_⟩
      rcases List.mem_cons.mp hp with rfl | hp
      · omega
      · have := hK p hp; omega
  have g1 := growth b 1 hb l tl (s.natAbs * k.natAbs) K fun x hx => (main x fun p hp => by have := hK p hp; omega).1
  have g2 := growth 1 b (by decide) tl l (s.natAbs * k.natAbs) K fun x hx => (main x fun p hp => by have := hK p hp; omega).2
  simp only [List.length_cons]
  omega
end Mine
end
section
open PySem PySem.W PyProof.Rows
namespace Mine
inductive V where
  | int (i : Int)
  | bool (b : Bool)
  | str (x : PySem.Str)
  | none
  | list (xs : List V)
  | own (xs : List V)
noncomputable abbrev Kp (h h' : Heap) : Prop := ∀ b o, h.get? b = some o → h'.get? b = some o
theorem Kp.refl (h : Heap) : Kp h h := fun _ _ e => e
theorem Kp.trans {a b c : Heap} (x : Kp a b) (y : Kp b c) : Kp a c := fun p o e => y p o (x p o e)
theorem Kp.push (h : Heap) (o : Obj) : Kp h (h.push o) := fun _ _ e => Heap.get?_push_of_some _ e
noncomputable abbrev listObj (vs : List Value) (n : Nat) : Obj := { cls := .type "list", data := .seq vs.toArray n }
mutual
noncomputable def VR (h : Heap) (P : Addr → Prop) (o : Option Addr) : V → Value → Prop
  | .int i, v => ∃ t, v = .int i t
  | .bool b, v => v = .bool b
  | .str x, v => ∃ t, v = .str x t
  | .none, v => v = .none
  | .list xs, v => ∃ a vs n, v = .ref a ∧ P a ∧ h.get? a = some (listObj vs n) ∧ VRs h P xs vs
  | .own xs, v => ∃ a vs n, v = .ref a ∧ o = some a ∧ h.get? a = some (listObj vs n) ∧ VRs h P xs vs
noncomputable def VRs (h : Heap) (P : Addr → Prop) : List V → List Value → Prop
  | [], [] => True
  | x :: xs, v :: vs => VR h P Option.none x v ∧ VRs h P xs vs
  | _, _ => False
end
mutual
theorem VR.mono {h h' : Heap} {P P' : Addr → Prop} {o o' : Option Addr} (k : ∀ a vs n, P a → h.get? a = some (listObj vs n) → P' a ∧ h'.get? a = some (listObj vs n))
    (ko : ∀ a vs n, o = some a → h.get? a = some (listObj vs n) → o' = some a ∧ h'.get? a = some (listObj vs n)) : ∀ (x : V) {v : Value}, VR h P o x v → VR h' P' o' x v
  | .int _, _, r => r
  | .bool _, _, r => r
  | .str _, _, r => r
  | .none, _, r => r
  | .list xs, v, r => by
    unfold VR at r ⊢
    obtain ⟨a, vs, n, e, p, g, rs⟩ := r
    exact ⟨a, vs, n, e, (k a vs n p g).1, (k a vs n p g).2, VRs.mono k xs rs⟩
  | .own xs, v, r => by
    unfold VR at r ⊢
    obtain ⟨a, vs, n, e, p, g, rs⟩ := r
    exact ⟨a, vs, n, e, (ko a vs n p g).1, (ko a vs n p g).2, VRs.mono k xs rs⟩
theorem VRs.mono {h h' : Heap} {P P' : Addr → Prop} (k : ∀ a vs n, P a → h.get? a = some (listObj vs n) → P' a ∧ h'.get? a = some (listObj vs n)) :
    ∀ (xs : List V) {vs : List Value}, VRs h P xs vs → VRs h' P' xs vs
  | [], [], r => by unfold VRs at r ⊢; trivial
  | [], _ :: _, r => by unfold VRs at r; exact r.elim
  | _ :: _, [], r => by unfold VRs at r; exact r.elim
  | x :: xs, v :: vs, r => by
    unfold VRs at r ⊢
    exact ⟨VR.mono k (fun _ _ _ e => by cases e) x r.1, VRs.mono k xs r.2⟩
end
theorem VR.keeps {h h' : Heap} {P : Addr → Prop} {o : Option Addr} (k : Kp h h') {x : V} {v : Value} (r : VR h P o x v) : VR h' P o x v :=
  VR.mono (fun a vs n p g => ⟨p, k _ _ g⟩) (fun a vs n p g => ⟨p, k _ _ g⟩) x r
theorem VRs.keeps {h h' : Heap} {P : Addr → Prop} (k : Kp h h') {x : List V} {v : List Value} (r : VRs h P x v) : VRs h' P x v :=
  VRs.mono (fun a vs n p g => ⟨p, k _ _ g⟩) x r
theorem VRs.length {h : Heap} {P : Addr → Prop} : ∀ {xs : List V} {vs : List Value}, VRs h P xs vs → xs.length = vs.length
  | [], [], _ => rfl
  | [], _ :: _, r => by unfold VRs at r; exact r.elim
  | _ :: _, [], r => by unfold VRs at r; exact r.elim
  | x :: xs, v :: vs, r => by unfold VRs at r; simp only [List.length_cons, VRs.length r.2]
theorem VRs.get {h : Heap} {P : Addr → Prop} : ∀ {xs : List V} {vs : List Value} {i : Nat} {x : V}, VRs h P xs vs → xs[i]? = some x → ∃ v, vs[i]? = some v ∧ VR h P none x v
  | [], _, _, _, _, e => by simp at e
  | _ :: _, [], _, _, r, _ => by unfold VRs at r; exact r.elim
  | x :: xs, v :: vs, 0, y, r, e => by
    unfold VRs at r
    simp only [List.getElem?_cons_zero, Option.some.injEq] at e ⊢
    subst e
    exact ⟨v, rfl, r.1⟩
  | x :: xs, v :: vs, i + 1, y, r, e => by
    unfold VRs at r
    simp only [List.getElem?_cons_succ] at e ⊢
    exact VRs.get r.2 e
theorem VRs.append {h : Heap} {P : Addr → Prop} : ∀ {xs ys : List V} {vs ws : List Value}, VRs h P xs vs → VRs h P ys ws → VRs h P (xs ++ ys) (vs ++ ws)
  | [], _, [], _, _, r => r
  | [], _, _ :: _, _, r, _ => by unfold VRs at r; exact r.elim
  | _ :: _, _, [], _, r, _ => by unfold VRs at r; exact r.elim
  | x :: xs, ys, v :: vs, ws, r, r' => by
    unfold VRs at r
    show VRs h P (x :: (xs ++ ys)) (v :: (vs ++ ws))
    unfold VRs
    exact ⟨r.1, VRs.append r.2 r'⟩
theorem VRs.drop {h : Heap} {P : Addr → Prop} : ∀ {n : Nat} {xs : List V} {vs : List Value}, VRs h P xs vs → VRs h P (xs.drop n) (vs.drop n)
  | 0, _, _, r => r
  | _ + 1, [], [], r => r
  | _ + 1, [], _ :: _, r => by unfold VRs at r; exact r.elim
  | _ + 1, _ :: _, [], r => by unfold VRs at r; exact r.elim
  | n + 1, _ :: xs, _ :: vs, r => by
    unfold VRs at r
    exact VRs.drop (n := n) r.2
theorem VRs.take {h : Heap} {P : Addr → Prop} : ∀ {n : Nat} {xs : List V} {vs : List Value}, VRs h P xs vs → VRs h P (xs.take n) (vs.take n)
  | 0, _, _, r => by simp only [List.take_zero]; unfold VRs; trivial
  | _ + 1, [], [], r => r
  | _ + 1, [], _ :: _, r => by unfold VRs at r; exact r.elim
  | _ + 1, _ :: _, [], r => by unfold VRs at r; exact r.elim
  | n + 1, x :: xs, v :: vs, r => by
    unfold VRs at r
    show VRs h P (x :: xs.take n) (v :: vs.take n)
    unfold VRs
    exact ⟨r.1, VRs.take (n := n) r.2⟩
theorem VRs.set {h : Heap} {P : Addr → Prop} : ∀ {n : Nat} {xs : List V} {vs : List Value} {y : V} {u : Value}, VRs h P xs vs → VR h P none y u → VRs h P (xs.set n y) (vs.set n u)
  | _, [], [], _, _, r, _ => r
  | _, [], _ :: _, _, _, r, _ => by unfold VRs at r; exact r.elim
  | _, _ :: _, [], _, _, r, _ => by unfold VRs at r; exact r.elim
  | 0, x :: xs, v :: vs, y, u, r, ry => by
    unfold VRs at r
    show VRs h P (y :: xs) (u :: vs)
    unfold VRs
    exact ⟨ry, r.2⟩
  | n + 1, x :: xs, v :: vs, y, u, r, ry => by
    unfold VRs at r
    show VRs h P (x :: xs.set n y) (v :: vs.set n u)
    unfold VRs
    exact ⟨r.1, VRs.set (n := n) r.2 ry⟩
theorem VR.sameBut {h h' : Heap} {P : Addr → Prop} {o : Option Addr} {L : Addr} {ob : Obj} (hs : Heap.SameBut L h h') (hL : h.get? L = some ob) (hn : ∀ vs n, ob ≠ listObj vs n) {x : V} {v : Value} (r : VR h P o x v) : VR h' P o x v := by
  have key : ∀ a vs n, h.get? a = some (listObj vs n) → h'.get? a = some (listObj vs n) := fun a vs n g => by
    by_cases e : a = L
    · subst e; rw [hL] at g; exact absurd (Option.some.inj g) (hn vs n)
    · exact hs.extBut a _ e g
  exact VR.mono (fun a vs n p g => ⟨p, key a vs n g⟩) (fun a vs n p g => ⟨p, key a vs n g⟩) x r
theorem VR.butP {h h' : Heap} {P : Addr → Prop} {L : Addr} (hs : Heap.SameBut L h h') (hP : ¬ P L) {x : V} {v : Value} (r : VR h P none x v) : VR h' P none x v :=
  VR.mono (fun a vs n p g => ⟨p, hs.extBut a _ (fun e => hP (e ▸ p)) g⟩) (fun a vs n p g => by cases p) x r
theorem VRs.butP {h h' : Heap} {P : Addr → Prop} {L : Addr} (hs : Heap.SameBut L h h') (hP : ¬ P L) {x : List V} {v : List Value} (r : VRs h P x v) : VRs h' P x v :=
  VRs.mono (fun a vs n p g => ⟨p, hs.extBut a _ (fun e => hP (e ▸ p)) g⟩) x r
noncomputable def V.imm : V → Bool
  | .list _ => false
  | .own _ => false
  | _ => true
noncomputable def V.free : V → Bool
  | .own _ => false
  | _ => true
theorem VR.imm {h h' : Heap} {P P' : Addr → Prop} {o o' : Option Addr} {x : V} {v : Value} (i : x.imm = true) (r : VR h P o x v) : VR h' P' o' x v := by
  cases x with
  | list => cases i
  | own => cases i
  | _ => exact r
theorem VR.unown {h : Heap} {P : Addr → Prop} {o o' : Option Addr} {x : V} {v : Value} (i : x.free = true) (r : VR h P o x v) : VR h P o' x v := by
  cases x with
  | own => cases i
  | _ => exact r
theorem VR.none_free {h : Heap} {P : Addr → Prop} {x : V} {v : Value} (r : VR h P none x v) : x.free = true := by
  cases x with
  | own => unfold VR at r; obtain ⟨a, vs, n, e, p, _⟩ := r; cases p
  | _ => rfl
noncomputable def V.lend : V → V
  | .own xs => .list xs
  | v => v
theorem VR.lend {h : Heap} {P P' : Addr → Prop} {o : Option Addr} {x : V} {v : Value} (hP : ∀ a, P a → P' a) (ho : ∀ a, o = some a → P' a) (r : VR h P o x v) : VR h P' none x.lend v := by
  have m : ∀ (y : V) {u : Value}, VR h P none y u → VR h P' none y u := fun y u q => VR.mono (fun a vs n p g => ⟨hP a p, g⟩) (fun a vs n p g => by cases p) y q
  cases x with
  | own xs =>
    unfold VR at r
    show VR h P' none (.list xs) v
    unfold VR
    obtain ⟨a, vs, n, e, p, g, rs⟩ := r
    exact ⟨a, vs, n, e, ho a p, g, VRs.mono (fun a vs n p g => ⟨hP a p, g⟩) xs rs⟩
  | _ => exact m _ (r.unown rfl)
noncomputable abbrev Loc := Nat → Option V
noncomputable def upd (l : Loc) (i : Nat) (v : V) : Loc := fun j => if j = i then some v else l j
inductive Holds (env : Env) (h : Heap) (x : PySem.Str) (v : Value) : Prop
  | loc (k : env.kindOf x = some .local) (m : PySem.Str → Option Value) (n : h.Ns env.locals m) (e : m x = some v)
  | cell (k : env.kindOf x = some .cell) (c : Addr) (hc : env.cells.lookup x = some c) (e : h.IsCell c (some v))
  | free (k : env.kindOf x = some .free) (c : Addr) (hc : env.cells.lookup x = some c) (e : h.IsCell c (some v))
theorem Holds.keeps {env : Env} {h h' : Heap} {x : PySem.Str} {v : Value} (k : Kp h h') : Holds env h x v → Holds env h' x v
  | .loc a m n e => .loc a m (n.keeps k) e
  | .cell a c hc e => .cell a c hc (e.keeps k)
  | .free a c hc e => .free a c hc (e.keeps k)
theorem Holds.load {M : Model} {A : Around} {E : Value → Shared → Prop} {s : Shared} {env : Env} {x : PySem.Str} {v : Value} {pos : Pos} {Q : Value → Shared → Prop} (H : Holds env s.heap x v) (hk : env.scope.kind = .function) (h : Q v s)
    (hd : (x == ("__debug__" : PySem.Str)) = false) (hn : (x == ("__classdict__" : PySem.Str)) = false) : wpAny M A (eval (.Name x pos) env) Q E s := by
  refine wpAny_Name ?_ hd
  cases H with
  | loc a m n e => exact wpAny_loadName_local hk a n e h
  | cell a c hc e => exact wpAny_loadName_cell hk a hc e h
  | free a c hc e => exact wpAny_loadName_free hk a hc e h hn
end Mine
end
section
open PySem PySem.W PyProof.Rows
namespace Mine
noncomputable def vtab : List PySem.Str := (["a", "b", "count", "i", "code", "c", "script", "spare", "k", "kind", "sign", "text", "unlike", "sizes", "marks", "place", "size", "one", "two", "product", "j", "low", "middle", "depth",
  "rest", "weight", "top", "taken", "number", "last", "chain", "signs", "row", "value", "numbers", "ending", "length", "places", "firsts", "near", "wide", "mark", "due", "told", "before", "lost", "held", "within"] : List String).map PySem.Str.ofString
noncomputable def vn (i : Nat) : PySem.Str := match vtab[i]? with
  | some x => x
  | none => PySem.Str.ofString "?"
theorem vtab_ok : ∀ x ∈ vtab, (x == ("__debug__" : PySem.Str)) = false ∧ (x == ("__classdict__" : PySem.Str)) = false := by decide +kernel
theorem vn_ok (i : Nat) : (vn i == ("__debug__" : PySem.Str)) = false ∧ (vn i == ("__classdict__" : PySem.Str)) = false := by
  unfold vn
  cases h : vtab[i]? with
  | none => decide +kernel
  | some x => exact vtab_ok x (List.mem_of_getElem? h)
theorem vtab_nodup : vtab.Nodup := by decide +kernel
theorem vn_inj {i j : Nat} (hi : i < vtab.length) (hj : j < vtab.length) (h : vn i = vn j) : i = j := by
  unfold vn at h
  rw [List.getElem?_eq_getElem hi, List.getElem?_eq_getElem hj] at h
  exact (List.getElem_inj vtab_nodup).mp h
structure Gl where
  mg : PySem.Str → Option Value
  mb : PySem.Str → Option Value
  objs : Frag
structure Base (G : Gl) (h : Heap) : Prop where
  g : h.Ns mainGlobals G.mg
  b : h.Ns builtinsNs G.mb
  lim : h.NoLimit
  has : G.objs.In h
theorem Base.keeps {G : Gl} {h h' : Heap} (B : Base G h) (k : Kp h h') : Base G h' := ⟨B.g.keeps k, B.b.keeps k, B.lim.keeps k, B.has.keeps k⟩
noncomputable abbrev Names := List (PySem.Str × NameKind)
structure Ok (G : Gl) (X : Names) (env : Env) (P : Addr → Prop) (o : Option Addr) (loc : Loc) (h : Heap) : Prop where
  kind : env.scope.kind = .function
  names : ∀ x, env.kindOf x = X.lookup x
  glob : env.globals = mainGlobals
  blt : env.builtins = builtinsNs
  base : Base G h
  vars : ∀ i v, loc i = some v → ∀ k, X.lookup (vn i) = some k → (k == .local || k == .cell || k == .free) = true → ∃ v', Holds env h (vn i) v' ∧ VR h P o v v'
  fresh : ∀ a, h.get? a = none → P a
  cl : ∀ x k, X.lookup x = some k → (k == .cell || k == .free) = true → ∃ c, env.cells.lookup x = some c
theorem Ok.keeps {G : Gl} {X : Names} {env : Env} {P : Addr → Prop} {o : Option Addr} {loc : Loc} {h h' : Heap} (O : Ok G X env P o loc h) (k : Kp h h') : Ok G X env P o loc h' :=
  ⟨O.kind, O.names, O.glob, O.blt, O.base.keeps k, fun i v e kd hk hl => let ⟨v', a, b⟩ := O.vars i v e kd hk hl; ⟨v', a.keeps k, b.keeps k⟩,
    fun a e => O.fresh a (by
      cases q : h.get? a with
      | none => rfl
      | some x => rw [k a x q] at e; cases e), O.cl⟩
structure AOk (n : Nat) (A : Around) : Prop where
  handled : A.handled = none
  depth : A.depth + n < 800
  units : A.units + 4 * n < 8000
theorem AOk.le {n m : Nat} {A : Around} (a : AOk n A) (h : m ≤ n) : AOk m A := ⟨a.handled, by have := a.depth; omega, by have := a.units; omega⟩
theorem AOk.deeper {n : Nat} {A : Around} (a : AOk (n + 1) A) (env : Env) : AOk n (A.deeper env) :=
  ⟨a.handled, by have := a.depth; simp only [Around.deeper]; omega, by have := a.units; simp only [Around.deeper]; omega⟩
section
variable (prog : Program) (w : World) (G : Gl)
noncomputable abbrev DE := Loc → Option V
noncomputable def ET (n : Nat) (X : Names) (e : Expr) (d : DE) : Prop :=
  ∀ (A : Around) (env : Env) (P : Addr → Prop) (o : Option Addr) (loc : Loc) (s : Shared) (Q : Value → Shared → Prop) (E : Value → Shared → Prop) (v : V), AOk n A → Ok G X env P o loc s.heap → d loc = some v →
    (∀ (h' : Heap) (tk : Nat) (v' : Value), Kp s.heap h' → VR h' P o v v' → Q v' { s with heap := h', toks := tk }) → wpAny (model prog w) A (eval e env) Q E s
noncomputable def TT (n : Nat) (X : Names) (e : Expr) (d : Loc → Option Bool) : Prop :=
  ∀ (A : Around) (env : Env) (P : Addr → Prop) (o : Option Addr) (loc : Loc) (s : Shared) (Q : Bool → Shared → Prop) (E : Value → Shared → Prop) (b : Bool), AOk n A → Ok G X env P o loc s.heap → d loc = some b →
    (∀ (h' : Heap) (tk : Nat), Kp s.heap h' → Q b { s with heap := h', toks := tk }) → wpAny (model prog w) A (isTrue e env (eval e env)) Q E s
end
section
variable {prog : Program} {w : World} {G : Gl} {n : Nat} {X : Names}
noncomputable def dVar (i : Nat) : DE := fun l => l i
theorem ET_var {x : PySem.Str} {pos : Pos} (i : Nat) (k : NameKind) (hn : vn i = x) (hk : X.lookup x = some k) (hl : (k == .local || k == .cell || k == .free) = true) : ET prog w G n X (.Name x pos) (dVar i) := by
  intro A env P o loc s Q E v hA O hd h
  subst hn
  obtain ⟨v', a, b⟩ := O.vars i v hd k hk hl
  exact a.load O.kind (h s.heap s.toks v' (Kp.refl _) b) (vn_ok i).1 (vn_ok i).2
noncomputable def dInt (i : Int) : DE := fun _ => some (.int i)
theorem ET_int {i : Int} {k : Nat} {pos : Pos} : ET prog w G n X (.Constant (.int i) k pos) (dInt i) := by
  intro A env P o loc s Q E v hA O hd h
  cases hd
  exact wpAny_Constant_int (h s.heap _ _ (Kp.refl _) ⟨_, rfl⟩)
noncomputable def dBool (b : Bool) : DE := fun _ => some (.bool b)
theorem ET_bool {b : Bool} {k : Nat} {pos : Pos} : ET prog w G n X (.Constant (.bool b) k pos) (dBool b) := by
  intro A env P o loc s Q E v hA O hd h
  cases hd
  exact wpAny_Constant_bool (h s.heap s.toks _ (Kp.refl _) rfl)
noncomputable def dStr (x : PySem.Str) : DE := fun _ => some (.str x)
theorem ET_str {x : PySem.Str} {k : Nat} {pos : Pos} : ET prog w G n X (.Constant (.str x) k pos) (dStr x) := by
  intro A env P o loc s Q E v hA O hd h
  cases hd
  exact wpAny_Constant_str (h s.heap _ _ (Kp.refl _) ⟨_, rfl⟩)
noncomputable def dBin (f : V → V → Option V) (a b : DE) : DE := fun l => (a l).bind fun x => (b l).bind fun y => f x y
noncomputable def OpB (n : Nat) (op : Operator) (f : V → V → Option V) : Prop :=
  ∀ (A : Around) (h₀ : Heap) (P : Addr → Prop) (o : Option Addr) (s : Shared) (Q : Value → Shared → Prop) (E : Value → Shared → Prop) (x y v : V) (x' y' : Value), AOk n A → Base G s.heap → (∀ a, s.heap.get? a = none → P a) → f x y = some v → VR s.heap P o x x' → VR s.heap P o y y' →
    (∀ (h' : Heap) (tk : Nat) (v' : Value), Kp s.heap h' → VR h' P o v v' → Q v' { s with heap := h', toks := tk }) → wpAny (model prog w) A (binaryOp op x' y') Q E s
theorem ET_bin {l r : Expr} {op : Operator} {pos : Pos} {a b : DE} {f : V → V → Option V} (ha : ET prog w G n X l a) (hb : ET prog w G n X r b) (hop : OpB (prog := prog) (w := w) (G := G) n op f) : ET prog w G n X (.BinOp l op r pos) (dBin f a b) := by
  intro A env P o loc s Q E v hA O hd h
  simp only [dBin, Option.bind_eq_some_iff] at hd
  obtain ⟨x, hx, y, hy, hf⟩ := hd
  refine wpAny_BinOp (ha A env P o loc s _ _ x hA O hx fun h1 t1 x' k1 r1 => ?_)
  refine hb A env P o loc _ _ _ y hA (O.keeps k1) hy fun h2 t2 y' k2 r2 => ?_
  exact hop A h2 P o _ _ _ x y v x' y' hA (O.base.keeps (k1.trans k2)) ((O.keeps k1).keeps k2).fresh hf (r1.keeps k2) r2 fun h3 t3 v' k3 r3 => h h3 t3 v' (k1.trans (k2.trans k3)) r3
noncomputable def addV : V → V → Option V
  | .int a, .int b => some (.int (a + b))
  | _, _ => none
noncomputable def subV : V → V → Option V
  | .int a, .int b => some (.int (a - b))
  | .bool a, .bool b => some (.int ((if a then 1 else 0) - (if b then 1 else 0)))
  | _, _ => none
noncomputable def fitsB (a b : Int) : Bool := !(decide (Builtin.Int.intBits a > shortFactorBits) && decide (Builtin.Int.intBits b > shortFactorBits) && Builtin.Int.intTooBig (Builtin.Int.intBits a + Builtin.Int.intBits b))
noncomputable def mulV : V → V → Option V
  | .int a, .int b => if fitsB a b then some (.int (a * b)) else none
  | _, _ => none
theorem op_add : OpB (prog := prog) (w := w) (G := G) n .Add addV := by
  intro A h₀ P o s Q E x y v x' y' hA B fr hf rx ry h
  cases x <;> cases y <;> simp only [addV, Option.some.injEq, reduceCtorEq] at hf
  obtain ⟨t, rfl⟩ := rx
  obtain ⟨u, rfl⟩ := ry
  subst hf
  exact PyProof.Rows.add_int (h s.heap _ _ (Kp.refl _) ⟨_, rfl⟩)
theorem op_sub : OpB (prog := prog) (w := w) (G := G) n .Sub subV := by
  intro A h₀ P o s Q E x y v x' y' hA B fr hf rx ry h
  cases x <;> cases y <;> simp only [subV, Option.some.injEq, reduceCtorEq] at hf
  · obtain ⟨t, rfl⟩ := rx
    obtain ⟨u, rfl⟩ := ry
    subst hf
    exact PyProof.Rows.sub_int (h s.heap _ _ (Kp.refl _) ⟨_, rfl⟩)
  · have rx : x' = _ := rx
    have ry : y' = _ := ry
    subst rx ry hf
    rename_i a b
    refine PyProof.Rows.sub_bool (h s.heap _ _ (Kp.refl _) ⟨s.toks, ?_⟩)
    cases a <;> cases b <;> rfl
theorem op_mul : OpB (prog := prog) (w := w) (G := G) n .Mult mulV := by
  intro A h₀ P o s Q E x y v x' y' hA B fr hf rx ry h
  cases x <;> cases y <;> simp only [mulV, reduceCtorEq] at hf
  obtain ⟨t, rfl⟩ := rx
  obtain ⟨u, rfl⟩ := ry
  split at hf
  · rename_i hfit
    cases hf
    exact PyProof.Rows.mul_int (h s.heap _ _ (Kp.refl _) ⟨_, rfl⟩) (by unfold IntMulOk; unfold fitsB at hfit; intro hh; rw [hh] at hfit; cases hfit)
  · cases hf
end
end Mine
end
section
open PySem PySem.W PyProof.Rows
namespace Mine
section
variable {prog : Program} {w : World} {G : Gl} {n : Nat} {X : Names}
noncomputable def OpC (n : Nat) (op : CmpOp) (f : V → V → Option Bool) : Prop :=
  ∀ (A : Around) (P : Addr → Prop) (o : Option Addr) (s : Shared) (Q : Value → Shared → Prop) (E : Value → Shared → Prop) (x y : V) (b : Bool) (x' y' : Value), AOk n A → Base G s.heap → f x y = some b → VR s.heap P o x x' → VR s.heap P o y y' →
    (∀ (h' : Heap) (tk : Nat), Kp s.heap h' → Q (.bool b) { s with heap := h', toks := tk }) → wpAny (model prog w) A (compareOp op x' y') Q E s
noncomputable def dCmp (f : V → V → Option Bool) (a b : DE) : DE := fun l => (a l).bind fun x => (b l).bind fun y => (f x y).map .bool
noncomputable def tCmp (f : V → V → Option Bool) (a b : DE) : Loc → Option Bool := fun l => (a l).bind fun x => (b l).bind fun y => f x y
theorem ET_cmp {l r : Expr} {op : CmpOp} {pos : Pos} {a b : DE} {f : V → V → Option Bool} (ha : ET prog w G n X l a) (hb : ET prog w G n X r b) (hop : OpC (prog := prog) (w := w) (G := G) n op f)
    (hm : behindInMarks op r = false) : ET prog w G n X (.Compare l [op] [r] pos) (dCmp f a b) := by
  intro A env P o loc s Q E v hA O hd h
  simp only [dCmp, Option.bind_eq_some_iff, Option.map_eq_some_iff] at hd
  obtain ⟨x, hx, y, hy, c, hf, rfl⟩ := hd
  refine wpAny_Compare1 (ha A env P o loc s _ _ x hA O hx fun h1 t1 x' k1 r1 => ?_) hm
  refine hb A env P o loc _ _ _ y hA (O.keeps k1) hy fun h2 t2 y' k2 r2 => ?_
  exact hop A P o _ _ _ x y c x' y' hA (O.base.keeps (k1.trans k2)) hf (r1.keeps k2) r2 fun h3 t3 k3 => h h3 t3 _ (k1.trans (k2.trans k3)) rfl
theorem TT_cmp {l r : Expr} {op : CmpOp} {pos : Pos} {a b : DE} {f : V → V → Option Bool} (ha : ET prog w G n X l a) (hb : ET prog w G n X r b) (hop : OpC (prog := prog) (w := w) (G := G) n op f)
    (hm : behindInMarks op r = false) : TT prog w G n X (.Compare l [op] [r] pos) (tCmp f a b) := by
  intro A env P o loc s Q E c hA O hd h
  simp only [tCmp, Option.bind_eq_some_iff] at hd
  obtain ⟨x, hx, y, hy, hf⟩ := hd
  refine wpAny_isTrue_Compare1 (ha A env P o loc s _ _ x hA O hx fun h1 t1 x' k1 r1 => ?_) hm
  refine hb A env P o loc _ _ _ y hA (O.keeps k1) hy fun h2 t2 y' k2 r2 => ?_
  exact hop A P o _ _ _ x y c x' y' hA (O.base.keeps (k1.trans k2)) hf (r1.keeps k2) r2 fun h3 t3 k3 => wpAny_truthy_bool (h h3 t3 (k1.trans (k2.trans k3)))
noncomputable def ltV : V → V → Option Bool
  | .int a, .int b => some (decide (a < b))
  | _, _ => none
noncomputable def leV : V → V → Option Bool
  | .int a, .int b => some (decide (a ≤ b))
  | _, _ => none
noncomputable def geV : V → V → Option Bool
  | .int a, .int b => some (decide (b ≤ a))
  | _, _ => none
noncomputable def strLt (x y : PySem.Str) : Bool := decide (x.cps.toList < y.cps.toList)
noncomputable def gtV : V → V → Option Bool
  | .int a, .int b => some (decide (b < a))
  | .str a, .str b => some (strLt b a)
  | _, _ => none
noncomputable def ltSV : V → V → Option Bool
  | .int a, .int b => some (decide (a < b))
  | .str a, .str b => some (strLt a b)
  | _, _ => none
theorem op_lt : OpC (prog := prog) (w := w) (G := G) n .Lt ltSV := by
  intro A P o s Q E x y b x' y' hA B hf rx ry h
  cases x <;> cases y <;> simp only [ltSV, Option.some.injEq, reduceCtorEq] at hf
  · obtain ⟨t, rfl⟩ := rx
    obtain ⟨u, rfl⟩ := ry
    subst hf
    exact PyProof.Rows.lt_int (h s.heap s.toks (Kp.refl _))
  · obtain ⟨t, rfl⟩ := rx
    obtain ⟨u, rfl⟩ := ry
    subst hf
    exact PyProof.Rows.lt_str (h s.heap s.toks (Kp.refl _))
theorem op_le : OpC (prog := prog) (w := w) (G := G) n .LtE leV := by
  intro A P o s Q E x y b x' y' hA B hf rx ry h
  cases x <;> cases y <;> simp only [leV, Option.some.injEq, reduceCtorEq] at hf
  obtain ⟨t, rfl⟩ := rx
  obtain ⟨u, rfl⟩ := ry
  subst hf
  exact PyProof.Rows.le_int (h s.heap s.toks (Kp.refl _))
theorem op_ge : OpC (prog := prog) (w := w) (G := G) n .GtE geV := by
  intro A P o s Q E x y b x' y' hA B hf rx ry h
  cases x <;> cases y <;> simp only [geV, Option.some.injEq, reduceCtorEq] at hf
  obtain ⟨t, rfl⟩ := rx
  obtain ⟨u, rfl⟩ := ry
  subst hf
  exact PyProof.Rows.ge_int (h s.heap s.toks (Kp.refl _))
theorem op_gt : OpC (prog := prog) (w := w) (G := G) n .Gt gtV := by
  intro A P o s Q E x y b x' y' hA B hf rx ry h
  cases x <;> cases y <;> simp only [gtV, Option.some.injEq, reduceCtorEq] at hf
  · obtain ⟨t, rfl⟩ := rx
    obtain ⟨u, rfl⟩ := ry
    subst hf
    exact PyProof.Rows.gt_int (h s.heap s.toks (Kp.refl _))
  · obtain ⟨t, rfl⟩ := rx
    obtain ⟨u, rfl⟩ := ry
    subst hf
    exact PySem.P.gt_str (h s.heap s.toks (Kp.refl _))
noncomputable def dNeg (a : DE) : DE := fun l => match a l with
  | some (.int i) => some (.int (-i))
  | _ => none
theorem ET_neg {e : Expr} {pos : Pos} {a : DE} (ha : ET prog w G n X e a) : ET prog w G n X (.UnaryOp .USub e pos) (dNeg a) := by
  intro A env P o loc s Q E v hA O hd h
  simp only [dNeg] at hd
  split at hd <;> cases hd
  rename_i i hx
  refine wpAny_UnaryOp (ha A env P o loc s _ _ _ hA O hx fun h1 t1 x' k1 r1 => ?_)
  obtain ⟨t, rfl⟩ := r1
  exact PyProof.Rows.neg_int (h h1 _ _ k1 ⟨_, rfl⟩)
noncomputable def dNot (a : DE) : DE := fun l => match a l with
  | some (.bool b) => some (.bool (!b))
  | _ => none
theorem ET_not {e : Expr} {pos : Pos} {a : DE} (ha : ET prog w G n X e a) : ET prog w G n X (.UnaryOp .Not e pos) (dNot a) := by
  intro A env P o loc s Q E v hA O hd h
  simp only [dNot] at hd
  split at hd <;> cases hd
  rename_i i hx
  refine wpAny_UnaryOp (ha A env P o loc s _ _ _ hA O hx fun h1 t1 x' k1 r1 => ?_)
  have r1 : x' = _ := r1
  subst r1
  exact PyProof.Rows.not_of (wpAny_truthy_bool (h h1 _ _ k1 rfl))
noncomputable def tVal (a : DE) : Loc → Option Bool := fun l => match a l with
  | some (.bool b) => some b
  | _ => none
theorem TT_val {e : Expr} {a : DE} (ha : ET prog w G n X e a) (he : ∀ env, isTrue e env (eval e env) = (do let v ← eval e env; standAt e.pos; holding [v] (truthy v))) : TT prog w G n X e (tVal a) := by
  intro A env P o loc s Q E b hA O hd h
  simp only [tVal] at hd
  split at hd <;> cases hd
  rename_i hx
  refine wpAny_isTrue_value (ha A env P o loc s _ _ _ hA O hx fun h1 t1 x' k1 r1 => ?_) (he env)
  have r1 : x' = _ := r1
  subst r1
  exact wpAny_truthy_bool (h h1 t1 k1)
noncomputable def tNot (t : Loc → Option Bool) : Loc → Option Bool := fun l => (t l).map not
theorem TT_not {e : Expr} {pos : Pos} {t : Loc → Option Bool} (ht : TT prog w G n X e t) : TT prog w G n X (.UnaryOp .Not e pos) (tNot t) := by
  intro A env P o loc s Q E b hA O hd h
  simp only [tNot, Option.map_eq_some_iff] at hd
  obtain ⟨c, hc, rfl⟩ := hd
  exact wpAny_isTrue_Not (ht A env P o loc s _ _ c hA O hc fun h1 t1 k1 => h h1 t1 k1)
noncomputable def tOr (a b : Loc → Option Bool) : Loc → Option Bool := fun l => (a l).bind fun x => if x then some true else b l
noncomputable def tAnd (a b : Loc → Option Bool) : Loc → Option Bool := fun l => (a l).bind fun x => if x then b l else some false
theorem TT_or {x y : Expr} {pos : Pos} {a b : Loc → Option Bool} (ha : TT prog w G n X x a) (hb : TT prog w G n X y b) : TT prog w G n X (.BoolOp .Or [x, y] pos) (tOr a b) := by
  intro A env P o loc s Q E c hA O hd h
  simp only [tOr, Option.bind_eq_some_iff] at hd
  obtain ⟨x, hx, hd⟩ := hd
  refine wpAny_isTrue_BoolOp (wpAny_allTrue_Or_cons (ha A env P o loc s _ _ x hA O hx fun h1 t1 k1 => ?_))
  cases x
  · simp only [Bool.false_eq_true, if_false] at hd ⊢
    refine wpAny_allTrue_Or_cons (hb A env P o loc _ _ _ c hA (O.keeps k1) hd fun h2 t2 k2 => ?_)
    cases c
    · exact wpAny_allTrue_Or_nil (h h2 t2 (k1.trans k2))
    · exact h h2 t2 (k1.trans k2)
  · simp only [if_true, Option.some.injEq] at hd ⊢
    subst hd
    exact h h1 t1 k1
theorem TT_and {x y : Expr} {pos : Pos} {a b : Loc → Option Bool} (ha : TT prog w G n X x a) (hb : TT prog w G n X y b) : TT prog w G n X (.BoolOp .And [x, y] pos) (tAnd a b) := by
  intro A env P o loc s Q E c hA O hd h
  simp only [tAnd, Option.bind_eq_some_iff] at hd
  obtain ⟨x, hx, hd⟩ := hd
  refine wpAny_isTrue_BoolOp (wpAny_allTrue_And_cons (ha A env P o loc s _ _ x hA O hx fun h1 t1 k1 => ?_))
  cases x
  · simp only [Bool.false_eq_true, if_false, Option.some.injEq] at hd ⊢
    subst hd
    exact h h1 t1 k1
  · simp only [if_true] at hd ⊢
    refine wpAny_allTrue_And_cons (hb A env P o loc _ _ _ c hA (O.keeps k1) hd fun h2 t2 k2 => ?_)
    cases c
    · exact h h2 t2 (k1.trans k2)
    · exact wpAny_allTrue_And_nil (h h2 t2 (k1.trans k2))
noncomputable def dAnd (a b : DE) : DE := fun l => match a l with
  | some (.bool true) => b l
  | some (.bool false) => some (.bool false)
  | _ => none
theorem ET_and {x y : Expr} {pos : Pos} {a b : DE} (ha : ET prog w G n X x a) (hb : ET prog w G n X y b) : ET prog w G n X (.BoolOp .And [x, y] pos) (dAnd a b) := by
  intro A env P o loc s Q E v hA O hd h
  simp only [dAnd] at hd
  split at hd
  · rename_i hx
    refine wpAny_And2 (ha A env P o loc s _ _ _ hA O hx fun h1 t1 x' k1 r1 => ?_)
    have r1 : x' = _ := r1
    subst r1
    refine wpAny_truthy_bool ?_
    simp only [if_true]
    exact hb A env P o loc _ _ _ v hA (O.keeps k1) hd fun h2 t2 y' k2 r2 => h h2 t2 y' (k1.trans k2) r2
  · rename_i hx
    cases hd
    refine wpAny_And2 (ha A env P o loc s _ _ _ hA O hx fun h1 t1 x' k1 r1 => ?_)
    have r1 : x' = _ := r1
    subst r1
    refine wpAny_truthy_bool ?_
    simp only [Bool.false_eq_true, if_false]
    exact h h1 t1 _ k1 rfl
  · cases hd
noncomputable def dIte (t : Loc → Option Bool) (a b : DE) : DE := fun l => (t l).bind fun c => if c then a l else b l
theorem ET_ite {t x y : Expr} {pos : Pos} {c : Loc → Option Bool} {a b : DE} (ht : TT prog w G n X t c) (ha : ET prog w G n X x a) (hb : ET prog w G n X y b) : ET prog w G n X (.IfExp t x y pos) (dIte c a b) := by
  intro A env P o loc s Q E v hA O hd h
  simp only [dIte, Option.bind_eq_some_iff] at hd
  obtain ⟨c', hc, hd⟩ := hd
  refine wpAny_IfExp (ht A env P o loc s _ _ c' hA O hc fun h1 t1 k1 => ?_)
  cases c'
  · simp only [Bool.false_eq_true, if_false] at hd ⊢
    exact hb A env P o loc _ _ _ v hA (O.keeps k1) hd fun h2 t2 y' k2 r2 => h h2 t2 y' (k1.trans k2) r2
  · simp only [if_true] at hd ⊢
    exact ha A env P o loc _ _ _ v hA (O.keeps k1) hd fun h2 t2 y' k2 r2 => h h2 t2 y' (k1.trans k2) r2
end
end Mine
end
section
open PySem PySem.W PyProof.Rows
namespace Mine
theorem isList_of {h : Heap} {a : Addr} {vs : List Value} {n : Nat} (g : h.get? a = some (listObj vs n)) : h.IsList a vs.toArray := ⟨_, g, rfl, n, rfl⟩
theorem VRs.single {h : Heap} {P : Addr → Prop} {x : V} {v : Value} (r : VR h P none x v) : VRs h P [x] [v] := by
  unfold VRs
  exact ⟨r, by unfold VRs; trivial⟩
theorem VRs.nil {h : Heap} {P : Addr → Prop} : VRs h P [] [] := by unfold VRs; trivial
theorem VRs.cons {h : Heap} {P : Addr → Prop} {x : V} {v : Value} {xs : List V} {vs : List Value} (r : VR h P none x v) (rs : VRs h P xs vs) : VRs h P (x :: xs) (v :: vs) := by
  unfold VRs
  exact ⟨r, rs⟩
theorem VRs.replicate {h : Heap} {P : Addr → Prop} {x : V} {v : Value} (r : VR h P none x v) : ∀ k, VRs h P (List.replicate k x) (List.replicate k v)
  | 0 => VRs.nil
  | k + 1 => VRs.cons r (VRs.replicate r k)
theorem VR.fresh {h : Heap} {P : Addr → Prop} {o : Option Addr} {xs : List V} {vs : List Value} {n : Nat} (hP : P h.objs.size) (rs : VRs h P xs vs) : VR (h.push (listObj vs n)) P o (.list xs) (.ref h.objs.size) := by
  unfold VR
  exact ⟨_, vs, n, rfl, hP, Heap.get?_push_size _ rfl, VRs.keeps (Kp.push _ _) rs⟩
theorem fresh_size (h : Heap) : h.get? h.objs.size = none := by
  cases e : h.get? h.objs.size with
  | none => rfl
  | some x => exact absurd (Heap.lt_size e) (Nat.lt_irrefl _)
section
variable {prog : Program} {w : World} {G : Gl} {n : Nat} {X : Names}
noncomputable def ETs (prog : Program) (w : World) (G : Gl) (n : Nat) (X : Names) (es : List Expr) (d : Loc → Option (List V)) : Prop :=
  ∀ (A : Around) (env : Env) (P : Addr → Prop) (o : Option Addr) (loc : Loc) (s : Shared) (pos : Pos) (Q : List Value → Shared → Prop) (E : Value → Shared → Prop) (vs : List V), AOk n A → Ok G X env P o loc s.heap → d loc = some vs →
    (∀ (h' : Heap) (tk : Nat) (vs' : List Value), Kp s.heap h' → VRs h' P vs vs' → Q vs' { s with heap := h', toks := tk }) → wpAny (model prog w) A (spliced (backTo pos (starEach es env))) Q E s
noncomputable def dNil : Loc → Option (List V) := fun _ => some []
noncomputable def dCons (a : DE) (b : Loc → Option (List V)) : Loc → Option (List V) := fun l => (a l).bind fun x => if x.free then (b l).map fun y => x :: y else none
theorem ETs_nil : ETs prog w G n X [] dNil := by
  intro A env P o loc s pos Q E vs hA O hd h
  cases hd
  exact wpAny_items_nil (h s.heap s.toks [] (Kp.refl _) VRs.nil)
theorem ETs_cons {e : Expr} {es : List Expr} {a : DE} {b : Loc → Option (List V)} (ha : ET prog w G n X e a) (hb : ETs prog w G n X es b)
    (hs : ∀ env, starEach (e :: es) env = (false, eval e env) :: starEach es env) : ETs prog w G n X (e :: es) (dCons a b) := by
  intro A env P o loc s pos Q E vs hA O hd h
  simp only [dCons, Option.bind_eq_some_iff] at hd
  obtain ⟨x, hx, hd⟩ := hd
  split at hd
  case isFalse => cases hd
  rename_i hfree
  simp only [Option.map_eq_some_iff] at hd
  obtain ⟨y, hy, rfl⟩ := hd
  refine wpAny_items_cons (ha A env P o loc s _ _ x hA O hx fun h1 t1 x' k1 r1 => ?_) (hs env)
  refine hb A env P o loc _ pos _ _ y hA (O.keeps k1) hy fun h2 t2 y' k2 r2 => ?_
  exact h h2 t2 _ (k1.trans k2) (VRs.cons ((r1.keeps k2).unown hfree) r2)
noncomputable def dList (a : Loc → Option (List V)) : DE := fun l => (a l).bind fun xs => if xs.length ≤ 4096 then some (.list xs) else none
theorem ET_list {es : List Expr} {pos : Pos} {a : Loc → Option (List V)} (ha : ETs prog w G n X es a) : ET prog w G n X (.List es pos) (dList a) := by
  intro A env P o loc s Q E v hA O hd h
  simp only [dList, Option.bind_eq_some_iff] at hd
  obtain ⟨xs, hx, hd⟩ := hd
  split at hd <;> cases hd
  rename_i hle
  refine wpAny_List (ha A env P o loc s pos _ _ xs hA O hx fun h1 t1 xs' k1 r1 => ?_)
  refine ⟨by rw [← r1.length]; exact Nat.le_trans hle (by decide), ?_⟩
  exact h _ t1 _ (k1.trans (Kp.push _ _)) (VR.fresh ((O.keeps k1).fresh _ (fresh_size _)) r1)
end
end Mine
end
section
open PySem PySem.W PyProof.Rows
namespace Mine
section
variable {prog : Program} {w : World} {G : Gl} {n : Nat} {X : Names}
noncomputable def addL : V → V → Option V
  | .list a, .list b => if a.length + b.length ≤ 4096 then some (.list (a ++ b)) else none
  | _, _ => none
theorem op_addL : OpB (prog := prog) (w := w) (G := G) n .Add addL := by
  intro A h₀ P o s Q E x y v x' y' hA B fr hf rx ry h
  cases x <;> cases y <;> simp only [addL, reduceCtorEq] at hf
  split at hf <;> cases hf
  rename_i hle
  unfold VR at rx ry
  obtain ⟨a, vs, k, rfl, pa, ga, ra⟩ := rx
  obtain ⟨b, ws, j, rfl, pb, gb, rb⟩ := ry
  refine concat_meets ⟨_, ga, rfl⟩ ⟨_, gb, rfl⟩ noFill_list_add seq_list_add PySem.F.slot_list_add PySem.F.entry_list_add (PySem.F.args_list_add_2 _ _)
    (list_addW a b vs.toArray ws.toArray k j none none #[] #[] (by simp only [List.size_toArray, ← ra.length, ← rb.length]; exact Nat.le_trans hle (by decide))) ⟨ga, gb, ?_⟩
  have e : vs.toArray ++ ws.toArray = (vs ++ ws).toArray := by simp
  rw [e]
  exact h _ _ _ (Kp.push _ _) (VR.fresh (fr _ (fresh_size _)) (VRs.append ra rb))
noncomputable def mulL : V → V → Option V
  | .list [x], .int k => if k ≤ 4096 ∧ -4096 ≤ k then some (.list (List.replicate k.toNat x)) else none
  | _, _ => none
theorem fold_rep (v : Value) : ∀ (k : Nat) (acc : List Value), List.foldl (fun x1 x2 => x1 ++ x2) acc.toArray (List.replicate k #[v]) = (acc ++ List.replicate k v).toArray
  | 0, acc => by simp
  | k + 1, acc => by
    rw [List.replicate_succ, List.foldl_cons]
    have e : acc.toArray ++ #[v] = (acc ++ [v]).toArray := by simp
    rw [e, fold_rep v k]
    simp [List.replicate_succ]
theorem op_mulL : OpB (prog := prog) (w := w) (G := G) n .Mult mulL := by
  intro A h₀ P o s Q E x y v x' y' hA B fr hf rx ry h
  cases x <;> try (simp only [mulL, reduceCtorEq] at hf; done)
  rename_i xs
  cases xs with
  | nil => simp only [mulL, reduceCtorEq] at hf
  | cons x r =>
    cases r with
    | cons => simp only [mulL, reduceCtorEq] at hf
    | nil =>
      cases y <;> simp only [mulL, reduceCtorEq] at hf
      split at hf <;> cases hf
      rename_i k hle
      obtain ⟨t, rfl⟩ := ry
      unfold VR at rx
      obtain ⟨a, vs, j, rfl, pa, ga, ra⟩ := rx
      have hvs : ∃ u, vs = [u] ∧ VR s.heap P none x u := by
        cases vs with
        | nil => unfold VRs at ra; exact ra.elim
        | cons u us =>
          cases us with
          | nil => unfold VRs at ra; exact ⟨u, rfl, ra.1⟩
          | cons => unfold VRs at ra; have := ra.2; unfold VRs at this; exact this.elim
      obtain ⟨u, rfl, ru⟩ := hvs
      refine wpAny_binaryOp_repeat_ref (T := "list") (U := "int") (by decide) ⟨_, ga, rfl⟩ (fun s' => typeIs_int s' k t) noFill_list_mul F.fills_int_mul F.slot_int_rmul repeat_list F.slot_int_index.lookup
        (call_meets F.slot_int_rmul (typeIs_int s k t) F.entry_int_rmul (F.args_int_rmul_2 _ _) (int___rmul___int_list k t a [u].toArray j)
          ⟨ga, rfl, ⟨_, ga, rfl⟩, call_meets F.slot_list_mul ⟨_, ga, rfl⟩ F.entry_list_mul (F.args_list_mul_2 _ _)
            (AutoListH.list___mul___list_int_3 a [u].toArray j k t (by simp [Builtin.List.listFitsIndex]; omega) (by simp; omega) (by simp [Builtin.List.listTooLong, sizeLine]; omega))
            ⟨ga, ?_⟩⟩)
      have e := fold_rep u k.toNat []
      simp only [List.nil_append] at e
      simp only [List.isEmpty_toArray, List.isEmpty_cons, Bool.false_eq_true, if_false]
      rw [e]
      exact h _ _ _ (Kp.push _ _) (VR.fresh (fr _ (fresh_size _)) (VRs.replicate ru _))
noncomputable def itemV : V → V → Option V
  | .list xs, .int k => if xs.length ≤ 4096 then (if 0 ≤ k then xs[k.toNat]? else if -(xs.length : Int) ≤ k then xs[(k + xs.length).toNat]? else none) else none
  | .own xs, .int k => if xs.length ≤ 4096 then (if 0 ≤ k then xs[k.toNat]? else if -(xs.length : Int) ≤ k then xs[(k + xs.length).toNat]? else none) else none
  | _, _ => none
theorem getItem_at {A : Around} {E : Value → Shared → Prop} {s : Shared} {P : Addr → Prop} {a : Addr} {vs : List Value} {j : Nat} {xs : List V} {k : Int} {t : Tok} {x : V} {Q : Value → Shared → Prop} (ga : s.heap.get? a = some (listObj vs j)) (ra : VRs s.heap P xs vs)
    (hx : (if xs.length ≤ 4096 then (if 0 ≤ k then xs[k.toNat]? else if -(xs.length : Int) ≤ k then xs[(k + xs.length).toNat]? else none) else none) = some x) (h : ∀ x', VR s.heap P none x x' → Q x' s) :
    wpAny (model prog w) A (getItem (.ref a) (.int k t)) Q E s := by
  split at hx
  case isFalse => cases hx
  rename_i hle
  have hlen := ra.length
  split at hx
  · rename_i h0
    obtain ⟨x', hx', rx⟩ := VRs.get ra hx
    have hlt : k.toNat < xs.length := by
      rcases Nat.lt_or_ge k.toNat xs.length with hh | hh
      · exact hh
      · rw [List.getElem?_eq_none hh] at hx; cases hx
    exact wpAny_getItem_list (isList_of ga) h0 (by omega) (by simpa using hx') (h x' rx)
  · rename_i h0
    split at hx
    case isFalse => cases hx
    rename_i h1
    obtain ⟨x', hx', rx⟩ := VRs.get ra hx
    refine wpAny_getItem_list_neg (isList_of ga) (by omega) (by simp only [List.size_toArray, ← hlen]; exact h1) (by omega) (x := x') ?_ (h x' rx)
    simp only [List.size_toArray, ← hlen]
    simpa using hx'
noncomputable def dSub (a b : DE) : DE := fun l => (a l).bind fun x => (b l).bind fun y => itemV x y
theorem ET_sub {value slice : Expr} {pos : Pos} {a b : DE} (ha : ET prog w G n X value a) (hb : ET prog w G n X slice b) (hs : ∀ o i, subscripted slice false o i = operate [o, i] (getItem o i)) : ET prog w G n X (.Subscript value slice pos) (dSub a b) := by
  intro A env P o loc s Q E v hA O hd h
  simp only [dSub, Option.bind_eq_some_iff] at hd
  obtain ⟨x, hx, y, hy, hf⟩ := hd
  rw [eval_Subscript]
  refine wpAny_bind (ha A env P o loc s _ _ x hA O hx fun h1 t1 x' k1 r1 => wpAny_bind (wpAny_holding ?_))
  refine hb A env P o loc _ _ _ y hA (O.keeps k1) hy fun h2 t2 y' k2 r2 => wpAny_bind (wpAny_standAt ?_)
  have r1' := r1.keeps k2
  have key : ∃ (a : Addr) (vs : List Value) (j : Nat) (xs : List V) (k : Int) (t : Tok), x' = .ref a ∧ y' = .int k t ∧ h2.get? a = some (listObj vs j) ∧ VRs h2 P xs vs ∧
      (if xs.length ≤ 4096 then (if 0 ≤ k then xs[k.toNat]? else if -(xs.length : Int) ≤ k then xs[(k + xs.length).toNat]? else none) else none) = some v := by
    cases x <;> cases y <;> simp only [itemV, reduceCtorEq] at hf
    · unfold VR at r1'
      obtain ⟨a, vs, j, rfl, pa, ga, ra⟩ := r1'
      obtain ⟨t, rfl⟩ := r2
      exact ⟨a, vs, j, _, _, t, rfl, rfl, ga, ra, hf⟩
    · unfold VR at r1'
      obtain ⟨a, vs, j, rfl, pa, ga, ra⟩ := r1'
      obtain ⟨t, rfl⟩ := r2
      exact ⟨a, vs, j, _, _, t, rfl, rfl, ga, ra, hf⟩
  obtain ⟨a, vs, j, xs, k, t, rfl, rfl, ga, ra, hval⟩ := key
  refine wpAny_bind ?_
  rw [getitemInPython_of_ne (by intro e; cases e)]
  refine wpAny_bind (wpAny_specialOf ⟨_, ga, rfl⟩ list_getitem_lookup ?_)
  refine wpAny_pure (wpAny_bind ?_)
  rw [hs]
  refine wpAny_operating (getItem_at (s := { s with heap := h2, toks := t2 }) ga ra hval fun x' rx => ?_)
  refine wpAny_bind (wpAny_letTemporaryGo (wpAny_pure ?_))
  exact h h2 t2 x' (k1.trans k2) (rx.unown rx.none_free)
end
end Mine
end
section
open PySem PySem.W PyProof.Rows
namespace Mine
section
variable {prog : Program} {w : World} {G : Gl} {n : Nat} {X : Names}
noncomputable def cutV (lo hi : Option Nat) : V → Option V
  | .list xs => if xs.length ≤ 4096 then (match lo, hi with
    | some a, some b => if b ≤ xs.length ∧ a ≤ b then some (.list ((xs.drop a).take (b - a))) else none
    | some a, none => some (.list (xs.drop a))
    | none, some b => some (.list (xs.take b))
    | none, none => none) else none
  | _ => none
noncomputable def dPart : Option DE → Loc → Option (Option Nat)
  | none, _ => some none
  | some d, l => match d l with
    | some (.int k) => if 0 ≤ k then some (some k.toNat) else none
    | _ => none
noncomputable def ETo (prog : Program) (w : World) (G : Gl) (n : Nat) (X : Names) : Option Expr → Option DE → Prop
  | none, none => True
  | some e, some d => ET prog w G n X e d
  | _, _ => False
theorem evalPart_of {e : Option Expr} {d : Option DE} (he : ETo prog w G n X e d) {A : Around} {env : Env} {P : Addr → Prop} {o : Option Addr} {loc : Loc} {s : Shared} {Q : Value → Shared → Prop} {E : Value → Shared → Prop} {k : Option Nat}
    (hA : AOk n A) (O : Ok G X env P o loc s.heap) (hd : dPart d loc = some k) (h : ∀ (h' : Heap) (tk : Nat) (v' : Value), Kp s.heap h' → IsPart v' (k.map fun (j : Nat) => (j : Int)) → Q v' { s with heap := h', toks := tk }) :
    wpAny (model prog w) A (evalPart e env) Q E s := by
  cases e with
  | none =>
    cases d with
    | some => exact he.elim
    | none =>
      simp only [dPart, Option.some.injEq] at hd
      subst hd
      exact wpAny_evalPart_none (h s.heap s.toks _ (Kp.refl _) .none)
  | some e =>
    cases d with
    | none => exact he.elim
    | some d =>
      simp only [dPart] at hd
      split at hd
      case h_2 => cases hd
      rename_i i hi
      split at hd <;> cases hd
      rename_i h0
      refine wpAny_evalPart_some (he A env P o loc s _ _ _ hA O hi fun h1 t1 v' k1 r1 => ?_)
      obtain ⟨t, rfl⟩ := r1
      refine h h1 t1 _ k1 ?_
      have e : (some i.toNat).map (fun (j : Nat) => (j : Int)) = some i := by simp; omega
      rw [e]
      exact .int i t
noncomputable def dCut (a : DE) (lo hi : Option DE) : DE := fun l => (a l).bind fun x => (dPart lo l).bind fun i => (dPart hi l).bind fun j => cutV i j x
theorem ET_cut {x : PySem.Str} {xp : Pos} {lower upper : Option Expr} {p pos : Pos} {a : DE} {lo hi : Option DE} (ha : ET prog w G n X (.Name x xp) a) (hl : ETo prog w G n X lower lo) (hu : ETo prog w G n X upper hi) :
    ET prog w G n X (.Subscript (.Name x xp) (.Slice lower upper none p) pos) (dCut a lo hi) := by
  intro A env P o loc s Q E v hA O hd h
  simp only [dCut, Option.bind_eq_some_iff] at hd
  obtain ⟨x, hx, i, hi', j, hj, hf⟩ := hd
  refine wpAny_Subscript_list_slice (ha A env P o loc s _ _ x hA O hx fun h1 t1 x' k1 r1 => ?_)
  refine evalPart_of hl hA (O.keeps k1) hi' fun h2 t2 vl k2 pl => ?_
  refine evalPart_of hu hA ((O.keeps k1).keeps k2) hj fun h3 t3 vu k3 pu => ?_
  cases x <;> simp only [cutV, reduceCtorEq] at hf
  rename_i xs
  split at hf
  case isFalse => cases hf
  rename_i hle
  have r1' := (r1.keeps k2).keeps k3
  unfold VR at r1'
  obtain ⟨a, vs, m, rfl, pa, ga, ra⟩ := r1'
  have hlen := ra.length
  refine ⟨a, _, _, _, rfl, isList_of ga, by simp only [List.size_toArray, ← hlen]; exact Nat.le_trans hle (by decide), pl, pu, ?_⟩
  have hk : Kp s.heap h3 := k1.trans (k2.trans k3)
  have key : ∃ ys ys', v = .list ys ∧ slicePick vs.toArray (i.map fun (j : Nat) => (j : Int)) (j.map fun (j : Nat) => (j : Int)) none = ys'.toArray ∧ VRs h3 P ys ys' := by
    cases i <;> cases j <;> simp only [reduceCtorEq, Option.some.injEq] at hf
    · subst hf
      exact ⟨_, vs.take _, rfl, by simpa using slicePick_upto' vs.toArray _, ra.take⟩
    · subst hf
      exact ⟨_, vs.drop _, rfl, by simpa using slicePick_from' vs.toArray _, ra.drop⟩
    · split at hf <;> cases hf
      rename_i hb
      exact ⟨_, (vs.drop _).take _, rfl, by simpa using slicePick_run vs.toArray _ _ (by simp only [List.size_toArray, ← hlen]; exact hb.1) hb.2, ra.drop.take⟩
  obtain ⟨ys, ys', rfl, e, ry⟩ := key
  rw [e]
  have P' : P (h3.push { cls := .type "slice", data := .fields #[vl, vu, .none] }).objs.size := ((((O.keeps k1).keeps k2).keeps k3).keeps (Kp.push _ _)).fresh _ (fresh_size _)
  have r := VR.fresh (n := 0) (o := o) P' (ry.keeps (Kp.push h3 { cls := .type "slice", data := .fields #[vl, vu, .none] }))
  rw [Heap.size_push] at r
  exact h _ _ _ (hk.trans ((Kp.push _ _).trans (Kp.push _ _))) r
noncomputable def modV : V → V → Option V
  | .int a, .int b => if b = 0 then none else some (.int (a.fmod b))
  | _, _ => none
theorem op_mod : OpB (prog := prog) (w := w) (G := G) n .Mod modV := by
  intro A h₀ P o s Q E x y v x' y' hA B fr hf rx ry h
  cases x <;> cases y <;> simp only [modV, reduceCtorEq] at hf
  split at hf <;> cases hf
  rename_i hb
  obtain ⟨t, rfl⟩ := rx
  obtain ⟨u, rfl⟩ := ry
  exact PyProof.Rows.mod_int' hb (h s.heap _ _ (Kp.refl _) ⟨_, rfl⟩)
noncomputable def fdivV : V → V → Option V
  | .int a, .int b => if b = 0 ∨ b.natAbs > 4096 then none else some (.int (a.fdiv b))
  | _, _ => none
theorem op_fdiv : OpB (prog := prog) (w := w) (G := G) n .FloorDiv fdivV := by
  intro A h₀ P o s Q E x y v x' y' hA B fr hf rx ry h
  cases x <;> cases y <;> simp only [fdivV, reduceCtorEq] at hf
  split at hf <;> cases hf
  rename_i hb
  obtain ⟨t, rfl⟩ := rx
  obtain ⟨u, rfl⟩ := ry
  exact PyProof.Rows.floordiv_int (by omega) (h s.heap _ _ (Kp.refl _) ⟨_, rfl⟩) (Or.inl (PyProof.noPylong_small (by omega)))
noncomputable def andV : V → V → Option V
  | .int a, .int b => some (.int (Builtin.bitAnd a b))
  | _, _ => none
theorem op_and : OpB (prog := prog) (w := w) (G := G) n .BitAnd andV := by
  intro A h₀ P o s Q E x y v x' y' hA B fr hf rx ry h
  cases x <;> cases y <;> simp only [andV, reduceCtorEq, Option.some.injEq] at hf
  obtain ⟨t, rfl⟩ := rx
  obtain ⟨u, rfl⟩ := ry
  subst hf
  exact PyProof.Rows.and_int (h s.heap _ _ (Kp.refl _) ⟨_, rfl⟩)
noncomputable def eqbV : V → V → Option Bool
  | .int a, .int b => some (a == b)
  | .bool a, .bool b => some (a == b)
  | .str a, .str b => some (a == b)
  | _, _ => none
theorem eqAt_of {A : Around} {s : Shared} {P : Addr → Prop} {x y : V} {x' y' : Value} {b : Bool} (hf : eqbV x y = some b) (rx : VR s.heap P none x x') (ry : VR s.heap P none y y') : SeqAt.EqAt A s x' y' b := by
  cases x <;> cases y <;> simp only [eqbV, reduceCtorEq, Option.some.injEq] at hf
  · obtain ⟨t, rfl⟩ := rx
    obtain ⟨u, rfl⟩ := ry
    subst hf
    exact SeqAt.EqAt.int_int _ _ _ _
  · have rx : x' = _ := rx
    have ry : y' = _ := ry
    subst rx ry hf
    exact SeqAt.EqAt.bool_bool _ _
  · obtain ⟨t, rfl⟩ := rx
    obtain ⟨u, rfl⟩ := ry
    subst hf
    exact SeqAt.EqAt.str_str _ _ _ _
noncomputable def eqV : V → V → Option Bool
  | .int a, .int b => some (a == b)
  | .bool a, .bool b => some (a == b)
  | _, _ => none
noncomputable def neV : V → V → Option Bool
  | .int a, .int b => some (a != b)
  | .bool a, .bool b => some (a != b)
  | _, _ => none
theorem op_eq : OpC (prog := prog) (w := w) (G := G) n .Eq eqV := by
  intro A P o s Q E x y b x' y' hA B hf rx ry h
  cases x <;> cases y <;> simp only [eqV, Option.some.injEq, reduceCtorEq] at hf
  · obtain ⟨t, rfl⟩ := rx
    obtain ⟨u, rfl⟩ := ry
    subst hf
    exact PyProof.Rows.eq_int (h s.heap s.toks (Kp.refl _))
  · have rx : x' = _ := rx
    have ry : y' = _ := ry
    subst rx ry hf
    exact PyProof.Rows.eq_bool (h s.heap s.toks (Kp.refl _))
theorem op_ne : OpC (prog := prog) (w := w) (G := G) n .NotEq neV := by
  intro A P o s Q E x y b x' y' hA B hf rx ry h
  cases x <;> cases y <;> simp only [neV, Option.some.injEq, reduceCtorEq] at hf
  · obtain ⟨t, rfl⟩ := rx
    obtain ⟨u, rfl⟩ := ry
    subst hf
    exact PyProof.Rows.ne_int (h s.heap s.toks (Kp.refl _))
  · have rx : x' = _ := rx
    have ry : y' = _ := ry
    subst rx ry hf
    exact PyProof.Rows.ne_bool (h s.heap s.toks (Kp.refl _))
noncomputable def isV : V → V → Option Bool
  | .bool a, .bool b => some (a == b)
  | _, _ => none
theorem op_is : OpC (prog := prog) (w := w) (G := G) n .Is isV := by
  intro A P o s Q E x y b x' y' hA B hf rx ry h
  cases x <;> cases y <;> simp only [isV, Option.some.injEq, reduceCtorEq] at hf
  have rx : x' = _ := rx
  have ry : y' = _ := ry
  subst rx ry hf
  exact PyProof.Rows.is_bool (h s.heap s.toks (Kp.refl _))
noncomputable def intsV : List V → Option (List Int)
  | [] => some []
  | .int a :: r => (intsV r).map fun x => a :: x
  | _ :: _ => none
noncomputable def boolsV : List V → Option (List Bool)
  | [] => some []
  | .bool a :: r => (boolsV r).map fun x => a :: x
  | _ :: _ => none
theorem intsAre_of {h : Heap} {P : Addr → Prop} : ∀ {xs : List V} {vs : List Value} {ns : List Int}, VRs h P xs vs → intsV xs = some ns → IntsAre vs ns
  | [], [], _, _, e => by cases e; exact .nil
  | [], _ :: _, _, r, _ => by unfold VRs at r; exact r.elim
  | _ :: _, [], _, r, _ => by unfold VRs at r; exact r.elim
  | x :: xs, v :: vs, ns, r, e => by
    unfold VRs at r
    cases x <;> simp only [intsV, reduceCtorEq, Option.map_eq_some_iff] at e
    obtain ⟨ms, hm, rfl⟩ := e
    obtain ⟨t, rfl⟩ := r.1
    exact .cons _ t (intsAre_of r.2 hm)
theorem carried_of {h : Heap} {P : Addr → Prop} : ∀ {xs : List V} {vs : List Value} {ns : List Bool}, VRs h P xs vs → boolsV xs = some ns → CarriedAll vs (ns.map PyData.bool)
  | [], [], _, _, e => by cases e; exact .nil
  | [], _ :: _, _, r, _ => by unfold VRs at r; exact r.elim
  | _ :: _, [], _, r, _ => by unfold VRs at r; exact r.elim
  | x :: xs, v :: vs, ns, r, e => by
    unfold VRs at r
    cases x <;> simp only [boolsV, reduceCtorEq, Option.map_eq_some_iff] at e
    obtain ⟨ms, hm, rfl⟩ := e
    have rv : v = _ := r.1
    subst rv
    exact .cons (.bool _) (carried_of r.2 hm)
theorem canLayAll0_b : ∀ ns : List Bool, PyData.canLayAll0 (ns.map PyData.bool) = true
  | [] => rfl
  | _ :: r => by simp [PyData.canLayAll0, PyData.canLay0, canLayAll0_b r]
theorem depthAll_b : ∀ ns : List Bool, PyData.depthAll (ns.map PyData.bool) = 0
  | [] => rfl
  | _ :: r => by simp [PyData.depthAll, PyData.depth, depthAll_b r]
theorem shaped_b (ns : List Bool) : SeqAt.shaped (.list (ns.map PyData.bool)) = true := by
  simp [SeqAt.shaped, PyData.canLay0, PyData.depth, canLayAll0_b, depthAll_b]
theorem sameAll_b : ∀ ns ms : List Bool, PySem.Spec.sameAll (ns.map PyData.bool) (ms.map PyData.bool) = decide (ns = ms)
  | [], [] => by simp [PySem.Spec.sameAll]
  | [], _ :: _ => by simp [PySem.Spec.sameAll]
  | _ :: _, [] => by simp [PySem.Spec.sameAll]
  | a :: r, b :: t => by
    simp only [List.map_cons, PySem.Spec.sameAll, PySem.Spec.same, sameAll_b r t]
    by_cases h : a = b <;> by_cases h' : r = t <;> simp [h, h']
theorem ne_bools {A : Around} {E : Value → Shared → Prop} {s : Shared} {a b : Addr} {xs ys : List Value} {ns ms : List Bool} {Q : Value → Shared → Prop} (ha : s.heap.IsList a xs.toArray) (hb : s.heap.IsList b ys.toArray) (hi : CarriedAll xs (ns.map PyData.bool)) (hj : CarriedAll ys (ms.map PyData.bool)) (hu : A.units + 64 < cLine) (h : Q (.bool (!decide (ns = ms))) s) :
    wpAny (model prog w) A (compareOp .NotEq (.ref a) (.ref b)) Q E s :=
  ne_dataH_same (reads_newData ha hi) (reads_newData hb hj) (shaped_b _) (shaped_b _) hu (SeqAt.noMix_of_shape (.list .bool) rfl _ _ (list_map_has fun _ => rfl) (list_map_has fun _ => rfl)) (by
    rw [show PySem.Spec.same (.list (ns.map PyData.bool)) (.list (ms.map PyData.bool)) = decide (ns = ms) from by simp only [PySem.Spec.same]; exact sameAll_b ns ms]; exact h)
noncomputable def neL : V → V → Option Bool
  | .list a, .list b => match intsV a, intsV b with
    | some x, some y => some (!decide (x = y))
    | _, _ => match boolsV a, boolsV b with
      | some x, some y => some (!decide (x = y))
      | _, _ => none
  | _, _ => none
theorem op_neL : OpC (prog := prog) (w := w) (G := G) n .NotEq neL := by
  intro A P o s Q E x y b x' y' hA B hf rx ry h
  cases x <;> cases y <;> simp only [neL, reduceCtorEq] at hf
  unfold VR at rx ry
  obtain ⟨a, vs, j, rfl, pa, ga, ra⟩ := rx
  obtain ⟨c, ws, m, rfl, pb, gb, rb⟩ := ry
  have hu : A.units + 64 < cLine := by have := hA.units; unfold cLine; omega
  split at hf
  · rename_i i1 i2
    cases hf
    exact W.ke_ne_ints (isList_of ga) (isList_of gb) (intsAre_of ra i1) (intsAre_of rb i2) hu (h s.heap s.toks (Kp.refl _))
  · split at hf <;> cases hf
    rename_i i1 i2
    exact ne_bools (isList_of ga) (isList_of gb) (carried_of ra i1) (carried_of rb i2) hu (h s.heap s.toks (Kp.refl _))
end
end Mine
end
section
open PySem PySem.W PyProof.Rows
namespace Mine
section
variable {prog : Program} {w : World} {G : Gl} {n : Nat} {X : Names}
noncomputable def anyEq : List V → V → Option Bool
  | [], _ => some false
  | x :: r, y => (eqbV x y).bind fun b => (anyEq r y).map fun c => b || c
noncomputable def valEq : Value → Value → Bool
  | .int a _, .int b _ => a == b
  | .bool a, .bool b => a == b
  | .str a _, .str b _ => a == b
  | _, _ => false
theorem anyEq_of {A : Around} {s : Shared} {P : Addr → Prop} {y : V} {y' : Value} (ry : VR s.heap P none y y') : ∀ {xs : List V} {vs : List Value} {b : Bool}, VRs s.heap P xs vs → anyEq xs y = some b →
    (∀ x ∈ vs, SeqAt.EqAt A s x y' (valEq x y')) ∧ vs.any (fun x => valEq x y') = b
  | [], [], b, _, e => by cases e; exact ⟨by simp, rfl⟩
  | [], _ :: _, _, r, _ => by unfold VRs at r; exact r.elim
  | _ :: _, [], _, r, _ => by unfold VRs at r; exact r.elim
  | x :: xs, v :: vs, b, r, e => by
    unfold VRs at r
    simp only [anyEq, Option.bind_eq_some_iff, Option.map_eq_some_iff] at e
    obtain ⟨c, hc, d, hd, rfl⟩ := e
    have ih := anyEq_of (A := A) ry r.2 hd
    have hv : SeqAt.EqAt A s v y' c := eqAt_of hc r.1 ry
    have hcv : valEq v y' = c := by
      have r1 := r.1
      cases x <;> cases y <;> simp only [eqbV, reduceCtorEq, Option.some.injEq] at hc
      · obtain ⟨t, rfl⟩ := r1
        obtain ⟨u, rfl⟩ := ry
        exact hc
      · have r1 : v = _ := r1
        have ry : y' = _ := ry
        subst r1 ry
        exact hc
      · obtain ⟨t, rfl⟩ := r1
        obtain ⟨u, rfl⟩ := ry
        exact hc
    refine ⟨fun x hx => ?_, by simp only [List.any_cons, hcv, ih.2]⟩
    rcases List.mem_cons.mp hx with rfl | hx
    · rw [hcv]; exact hv
    · exact ih.1 x hx
noncomputable def inV : V → V → Option Bool
  | y, .list xs => if y.imm then anyEq xs y else none
  | _, _ => none
noncomputable def notInV : V → V → Option Bool
  | y, .list xs => if y.imm then (anyEq xs y).map not else none
  | _, _ => none
theorem op_in : OpC (prog := prog) (w := w) (G := G) n .In inV := by
  intro A P o s Q E x y b x' y' hA B hf rx ry h
  cases y <;> simp only [inV, reduceCtorEq] at hf
  split at hf
  case isFalse => cases hf
  rename_i hi
  unfold VR at ry
  obtain ⟨a, vs, j, rfl, pa, ga, ra⟩ := ry
  have key := anyEq_of (A := A.in1) (P := P) (VR.imm hi rx) ra hf
  exact SeqAt.in_listAt (fun y => valEq y x') (isList_of ga) (fun y hy => key.1 y (by simpa using hy)) (by simp only [List.any_toArray]; rw [key.2]; exact h s.heap s.toks (Kp.refl _))
theorem op_notIn : OpC (prog := prog) (w := w) (G := G) n .NotIn notInV := by
  intro A P o s Q E x y b x' y' hA B hf rx ry h
  cases y <;> simp only [notInV, reduceCtorEq] at hf
  split at hf
  case isFalse => cases hf
  rename_i hi
  simp only [Option.map_eq_some_iff] at hf
  obtain ⟨c, hf, rfl⟩ := hf
  unfold VR at ry
  obtain ⟨a, vs, j, rfl, pa, ga, ra⟩ := ry
  have key := anyEq_of (A := A.in1) (P := P) (VR.imm hi rx) ra hf
  exact SeqAt.notIn_listAt (fun y => valEq y x') (isList_of ga) (fun y hy => key.1 y (by simpa using hy)) (by simp only [List.any_toArray]; rw [key.2]; exact h s.heap s.toks (Kp.refl _))
noncomputable def dInTup (a : DE) (b : Loc → Option (List V)) : DE := fun l => (a l).bind fun y => (b l).bind fun xs => if y.imm && decide (xs.length ≤ 4096) then (anyEq xs y).map .bool else none
theorem ET_inTup {l : Expr} {es : List Expr} {k : Nat} {p pos : Pos} {a : DE} {b : Loc → Option (List V)} (ha : ET prog w G n X l a) (hb : ETs prog w G n X es b) (hm : behindInMarks .In (.Tuple es k p) = false) :
    ET prog w G n X (.Compare l [.In] [.Tuple es k p] pos) (dInTup a b) := by
  intro A env P o loc s Q E v hA O hd h
  simp only [dInTup, Option.bind_eq_some_iff] at hd
  obtain ⟨y, hy, xs, hx, hd⟩ := hd
  split at hd
  case isFalse => cases hd
  rename_i hi
  simp only [Bool.and_eq_true, decide_eq_true_eq] at hi
  simp only [Option.map_eq_some_iff] at hd
  obtain ⟨c, hf, rfl⟩ := hd
  refine wpAny_Compare1 (ha A env P o loc s _ _ y hA O hy fun h1 t1 x' k1 r1 => ?_) hm
  refine wpAny_Tuple (hb A env P o loc _ _ _ _ xs hA (O.keeps k1) hx fun h2 t2 vs k2 r2 => ?_)
  refine ⟨by rw [← r2.length]; exact Nat.le_trans hi.2 (by decide), ?_⟩
  have r2' := r2.keeps (Kp.push h2 { cls := .type "tuple", data := .seq vs.toArray })
  have key := anyEq_of (A := A.in1) (s := { s with heap := h2.push { cls := .type "tuple", data := .seq vs.toArray }, toks := t2 }) (P := P) (VR.imm hi.1 r1) r2' hf
  refine SeqAt.in_tupleAt (fun y => valEq y x') (items := vs.toArray) ⟨_, Heap.get?_push_size _ rfl, rfl, _, rfl⟩ (fun y hy => key.1 y (by simpa using hy)) ?_
  simp only [List.any_toArray]
  rw [key.2]
  exact h _ _ _ (k1.trans (k2.trans (Kp.push _ _))) rfl
noncomputable def dChain (f g : V → V → Option Bool) (a b c : DE) : DE := fun l => (a l).bind fun x => (b l).bind fun y => (f x y).bind fun t => if t then (c l).bind fun z => (g y z).map .bool else some (.bool false)
theorem ET_chain {l r₁ r₂ : Expr} {op₁ op₂ : CmpOp} {pos : Pos} {a b c : DE} {f g : V → V → Option Bool} (ha : ET prog w G n X l a) (hb : ET prog w G n X r₁ b) (hc : ET prog w G n X r₂ c)
    (hop₁ : OpC (prog := prog) (w := w) (G := G) n op₁ f) (hop₂ : OpC (prog := prog) (w := w) (G := G) n op₂ g) (hm : lastMarks [op₁, op₂] [r₁, r₂] = false) :
    ET prog w G n X (.Compare l [op₁, op₂] [r₁, r₂] pos) (dChain f g a b c) := by
  intro A env P o loc s Q E v hA O hd h
  simp only [dChain, Option.bind_eq_some_iff] at hd
  obtain ⟨x, hx, y, hy, t, hf, hd⟩ := hd
  refine Compare_chain (ha A env P o loc s _ _ x hA O hx fun h1 t1 x' k1 r1 => chain_link ?_) hm
  refine hb A env P o loc _ _ _ y hA (O.keeps k1) hy fun h2 t2 y' k2 r2 => ?_
  refine hop₁ A P o _ _ _ x y t x' y' hA (O.base.keeps (k1.trans k2)) hf (r1.keeps k2) r2 fun h3 t3 k3 => wpAny_truthy_bool ?_
  have k13 := k1.trans (k2.trans k3)
  cases t
  · simp only [Bool.false_eq_true, if_false, Option.some.injEq] at hd ⊢
    subst hd
    exact h h3 t3 _ k13 rfl
  · simp only [if_true, Option.bind_eq_some_iff, Option.map_eq_some_iff] at hd ⊢
    obtain ⟨z, hz, u, hg, rfl⟩ := hd
    refine chain_last ?_
    refine hc A env P o loc _ _ _ z hA (O.keeps k13) hz fun h4 t4 z' k4 r4 => ?_
    exact hop₂ A P o _ _ _ y z u y' z' hA (O.base.keeps (k13.trans k4)) hg ((r2.keeps k3).keeps k4) r4 fun h5 t5 k5 => h h5 t5 _ (k13.trans (k4.trans k5)) rfl
noncomputable def FnC (prog : Program) (w : World) (G : Gl) (n : Nat) (f : Value) (S : List V → Option V) : Prop :=
  ∀ (A : Around) (P : Addr → Prop) (s : Shared) (Q : Value → Shared → Prop) (E : Value → Shared → Prop) (vs : List V) (vs' : List Value) (v : V), AOk n A → Base G s.heap → (∀ a, s.heap.get? a = none → P a) → VRs s.heap P vs vs' → S vs = some v →
    (∀ (h' : Heap) (tk : Nat) (v' : Value), Kp s.heap h' → VR h' P none v v' → Q v' { s with heap := h', toks := tk }) → wpAny (model prog w) A (call f vs') Q E s
inductive CallOk (G : Gl) : Value → Prop
  | blt (id : String) : CallOk G (.builtin id)
  | fn (a : Addr) (ob : Obj) (fd : FuncData) (hin : ∀ h, Base G h → h.get? a = some ob) (hd : ob.data = .func fd) : CallOk G (.ref a)
theorem callWith_ok {f : Value} (hf : CallOk G f) {M : Model} {A : Around} {E : Value → Shared → Prop} {s : Shared} {env : Env} {pos : Pos} {e : Expr} {rest : List Expr} {Q : Value → Shared → Prop}
    (he : starEach (e :: rest) env = (false, eval e env) :: starEach rest env) (hplain : (backTo pos (starEach rest env)).any (·.1) = false)
    (h : wpAny M A (spliced (backTo pos (starEach (e :: rest) env))) (fun vs s₁ => Base G s₁.heap ∧ wpAny M A (call f vs) Q E s₁) E s) :
    wpAny M A (callWith pos f [] (backTo pos (starEach (e :: rest) env)) []) Q E s := by
  rw [he] at h ⊢
  cases hf with
  | blt id => exact Calls.callWith_builtin (by show (false || (backTo pos (starEach rest env)).any (·.1)) = false; rw [hplain]; rfl) (Calls.evalArgs_plain (wpAny_mono h (fun _ _ x => x.2) fun _ _ x => x))
  | fn a ob fd hin hd => exact Calls.callWith_function (Calls.evalArgs_plain (wpAny_mono h (fun _ s₁ x => ⟨⟨hin _ x.1, hd⟩, x.2⟩) fun _ _ x => x))
inductive NameOk (G : Gl) (x : PySem.Str) (f : Value) : Prop
  | glob (e : G.mg x = some f)
  | blt (m : G.mg x = none) (e : G.mb x = some f)
theorem name_ok {A : Around} {E : Value → Shared → Prop} {s : Shared} {env : Env} {x : PySem.Str} {pos : Pos} {f : Value} {P : Addr → Prop} {o : Option Addr} {loc : Loc} {Q : Value → Shared → Prop} (hn : NameOk G x f) (O : Ok G X env P o loc s.heap) (hk : X.lookup x = some .globalImplicit)
    (hd : (x == ("__debug__" : PySem.Str)) = false) (h : Q f s) : wpAny (model prog w) A (eval (.Name x pos) env) Q E s := by
  refine Calls.Name_function_global O.kind ((O.names x).trans hk) ?_ hd
  cases hn with
  | glob e => exact Calls.loadGlobal_global (by rw [O.glob]; exact O.base.g) e h
  | blt m e => exact Calls.loadGlobal_builtin (by rw [O.glob]; exact O.base.g) m (by rw [O.blt]; exact O.base.b) e h
noncomputable def dCall (S : List V → Option V) (a : Loc → Option (List V)) : DE := fun l => (a l).bind S
theorem ET_call {x : PySem.Str} {xp pos : Pos} {e : Expr} {rest : List Expr} {f : Value} {S : List V → Option V} {a : Loc → Option (List V)} (hf : FnC prog w G n f S) (hok : CallOk G f) (hn : NameOk G x f) (hk : X.lookup x = some .globalImplicit)
    (hd : (x == ("__debug__" : PySem.Str)) = false) (ha : ETs prog w G n X (e :: rest) a)
    (he : ∀ env, starEach (e :: rest) env = (false, eval e env) :: starEach rest env) (hplain : ∀ env, (backTo pos (starEach rest env)).any (·.1) = false) :
    ET prog w G n X (.Call (.Name x xp) (e :: rest) [] pos) (dCall S a) := by
  intro A env P o loc s Q E v hA O hd' h
  simp only [dCall, Option.bind_eq_some_iff] at hd'
  obtain ⟨vs, hvs, hS⟩ := hd'
  refine wpAny_Call_Name_kw (name_ok hn O hk hd ?_)
  refine callWith_ok hok (he env) (hplain env) (ha A env P o loc s pos _ _ vs hA O hvs fun h1 t1 vs' k1 r1 => ⟨O.base.keeps k1, ?_⟩)
  exact hf A P _ _ _ vs vs' v hA (O.base.keeps k1) (O.keeps k1).fresh r1 hS fun h2 t2 v' k2 r2 => h h2 t2 v' (k1.trans k2) (r2.unown r2.none_free)
noncomputable def ETsL (prog : Program) (w : World) (G : Gl) (n : Nat) (X : Names) (es : List Expr) (d : Loc → Option (List V)) : Prop :=
  ∀ (A : Around) (env : Env) (P : Addr → Prop) (o : Option Addr) (loc : Loc) (s : Shared) (pos : Pos) (Q : List Value → Shared → Prop) (E : Value → Shared → Prop) (vs : List V), AOk n A → Ok G X env P o loc s.heap → d loc = some vs →
    (∀ (h' : Heap) (tk : Nat) (vs' : List Value), Kp s.heap h' → VRs h' (fun a => P a ∨ o = some a) vs vs' → Q vs' { s with heap := h', toks := tk }) → wpAny (model prog w) A (spliced (backTo pos (starEach es env))) Q E s
noncomputable def dConsL (a : DE) (b : Loc → Option (List V)) : Loc → Option (List V) := fun l => (a l).bind fun x => (b l).map fun y => x.lend :: y
theorem ETsL_nil : ETsL prog w G n X [] dNil := by
  intro A env P o loc s pos Q E vs hA O hd h
  cases hd
  exact wpAny_items_nil (h s.heap s.toks [] (Kp.refl _) VRs.nil)
theorem ETsL_cons {e : Expr} {es : List Expr} {a : DE} {b : Loc → Option (List V)} (ha : ET prog w G n X e a) (hb : ETsL prog w G n X es b)
    (hs : ∀ env, starEach (e :: es) env = (false, eval e env) :: starEach es env) : ETsL prog w G n X (e :: es) (dConsL a b) := by
  intro A env P o loc s pos Q E vs hA O hd h
  simp only [dConsL, Option.bind_eq_some_iff, Option.map_eq_some_iff] at hd
  obtain ⟨x, hx, y, hy, rfl⟩ := hd
  refine wpAny_items_cons (ha A env P o loc s _ _ x hA O hx fun h1 t1 x' k1 r1 => ?_) (hs env)
  refine hb A env P o loc _ pos _ _ y hA (O.keeps k1) hy fun h2 t2 y' k2 r2 => ?_
  exact h h2 t2 _ (k1.trans k2) (VRs.cons ((r1.keeps k2).lend (fun a p => Or.inl p) (fun a p => Or.inr p)) r2)
noncomputable def dCallL (S : List V → Option V) (a : Loc → Option (List V)) : DE := fun l => (a l).bind fun vs => (S vs).bind fun v => if v.imm then some v else none
theorem ET_callL {x : PySem.Str} {xp pos : Pos} {e : Expr} {rest : List Expr} {f : Value} {S : List V → Option V} {a : Loc → Option (List V)} (hf : FnC prog w G n f S) (hok : CallOk G f) (hn : NameOk G x f) (hk : X.lookup x = some .globalImplicit)
    (hd : (x == ("__debug__" : PySem.Str)) = false) (ha : ETsL prog w G n X (e :: rest) a)
    (he : ∀ env, starEach (e :: rest) env = (false, eval e env) :: starEach rest env) (hplain : ∀ env, (backTo pos (starEach rest env)).any (·.1) = false) :
    ET prog w G n X (.Call (.Name x xp) (e :: rest) [] pos) (dCallL S a) := by
  intro A env P o loc s Q E v hA O hd' h
  simp only [dCallL, Option.bind_eq_some_iff] at hd'
  obtain ⟨vs, hvs, u, hS, hi⟩ := hd'
  split at hi <;> cases hi
  rename_i hi
  refine wpAny_Call_Name_kw (name_ok hn O hk hd ?_)
  refine callWith_ok hok (he env) (hplain env) (ha A env P o loc s pos _ _ vs hA O hvs fun h1 t1 vs' k1 r1 => ⟨O.base.keeps k1, ?_⟩)
  exact hf A (fun a => P a ∨ o = some a) _ _ _ vs vs' v hA (O.base.keeps k1) (fun a e => Or.inl ((O.keeps k1).fresh a e)) r1 hS fun h2 t2 v' k2 r2 => h h2 t2 v' (k1.trans k2) (VR.imm hi r2)
noncomputable def lenS : List V → Option V
  | [.list xs] => if xs.length ≤ 4096 then some (.int xs.length) else none
  | _ => none
theorem fn_len : FnC prog w G n (.builtin "len") lenS := by
  intro A P s Q E vs vs' v hA B fr r hS h
  unfold lenS at hS
  split at hS
  case h_2 => cases hS
  rename_i xs
  split at hS <;> cases hS
  rename_i hle
  cases vs' with
  | nil => unfold VRs at r; exact r.elim
  | cons v' rest =>
    unfold VRs at r
    obtain ⟨r, r2⟩ := r
    cases rest with
    | cons => unfold VRs at r2; exact r2.elim
    | nil =>
      unfold VR at r
      obtain ⟨a, ws, j, rfl, pa, ga, ra⟩ := r
      have hl := ra.length
      refine Calls.call_len_list (isList_of ga) (by simp only [List.size_toArray, ← hl]; omega) ?_
      simp only [List.size_toArray, ← hl]
      exact h s.heap _ _ (Kp.refl _) ⟨_, rfl⟩
noncomputable def chrS : List V → Option V
  | [.int i] => if 0 ≤ i ∧ i ≤ 1114111 then some (.str ⟨#[i.toNat]⟩) else none
  | _ => none
theorem fn_chr : FnC prog w G n (.builtin "chr") chrS := by
  intro A P s Q E vs vs' v hA B fr r hS h
  unfold chrS at hS
  split at hS
  case h_2 => cases hS
  rename_i i
  split at hS <;> cases hS
  rename_i hle
  cases vs' with
  | nil => unfold VRs at r; exact r.elim
  | cons v' rest =>
    unfold VRs at r
    obtain ⟨r, r2⟩ := r
    cases rest with
    | cons => unfold VRs at r2; exact r2.elim
    | nil =>
      obtain ⟨t, rfl⟩ := r
      exact chr_of_range hle.1 hle.2 (h s.heap _ _ (Kp.refl _) ⟨_, rfl⟩)
noncomputable def ordS : List V → Option V
  | [.str x] => if x.length = 1 then some (.int (x.cps.getD 0 0 : Nat)) else none
  | _ => none
theorem fn_ord : FnC prog w G n (.builtin "ord") ordS := by
  intro A P s Q E vs vs' v hA B fr r hS h
  unfold ordS at hS
  split at hS
  case h_2 => cases hS
  rename_i i
  split at hS <;> cases hS
  rename_i hle
  cases vs' with
  | nil => unfold VRs at r; exact r.elim
  | cons v' rest =>
    unfold VRs at r
    obtain ⟨r, r2⟩ := r
    cases rest with
    | cons => unfold VRs at r2; exact r2.elim
    | nil =>
      obtain ⟨t, rfl⟩ := r
      exact ord_of_one hle (h s.heap _ _ (Kp.refl _) ⟨_, rfl⟩)
noncomputable def strsV : List V → Option (List PySem.Str)
  | [] => some []
  | .str a :: r => (strsV r).map fun x => a :: x
  | _ :: _ => none
theorem strsAre_of {h : Heap} {P : Addr → Prop} : ∀ {xs : List V} {vs : List Value} {ns : List PySem.Str}, VRs h P xs vs → strsV xs = some ns → StrsAre vs ns
  | [], [], _, _, e => by cases e; exact .nil
  | [], _ :: _, _, r, _ => by unfold VRs at r; exact r.elim
  | _ :: _, [], _, r, _ => by unfold VRs at r; exact r.elim
  | x :: xs, v :: vs, ns, r, e => by
    unfold VRs at r
    cases x <;> simp only [strsV, reduceCtorEq, Option.map_eq_some_iff] at e
    obtain ⟨ms, hm, rfl⟩ := e
    obtain ⟨t, rfl⟩ := r.1
    exact .cons _ t (strsAre_of r.2 hm)
noncomputable def joinS (x : PySem.Str) (l : List PySem.Str) : Option V := if (l.map fun y => y.length).sum + l.length ≤ 4096 then some (.str (Txt.join x l)) else none
noncomputable def dJoin (x : PySem.Str) (a : DE) : DE := fun l => match a l with
  | some (.list xs) => (strsV xs).bind (joinS x)
  | _ => none
theorem ET_join {x : PySem.Str} {k : Nat} {p apos pos : Pos} {e : Expr} {a : DE} (ha : ET prog w G n X e a) (hx : x.length ≤ 16)
    (he : ∀ env, starEach [e] env = (false, eval e env) :: starEach [] env)
    (hm : ∀ env, ∃ pl : Sem Bool, eval (.Call (.Attribute (.Constant (.str x) k p) "join" apos) [e] [] pos) env = (do
      let ov ← eval (.Constant (.str x) k p) env
      standAt apos.atName
      let (f, first) ← holding [ov] (getMethod ov "join" pl)
      callWith pos f first (backTo pos (starEach [e] env)) [])) : ET prog w G n X (.Call (.Attribute (.Constant (.str x) k p) "join" apos) [e] [] pos) (dJoin x a) := by
  intro A env P o loc s Q E v hA O hd h
  simp only [dJoin] at hd
  split at hd
  case h_2 => cases hd
  rename_i xs hxs
  simp only [Option.bind_eq_some_iff] at hd
  obtain ⟨ys, hys, hd⟩ := hd
  unfold joinS at hd
  split at hd <;> cases hd
  rename_i hle
  obtain ⟨pl, hm⟩ := hm env
  refine MethodCall_ (pl := pl) ?_ hm
  refine wpAny_Constant_str ?_
  refine getMethod_builtin (typeIs_str _ _ _) F.plainAttrs_str F.slot_str_join F.type_str_join (fun a e => by cases e) ?_
  refine callWith_method1 ?_ (he env) rfl
  rw [he env]
  refine Calls.spliced_cons ?_
  refine ha A env P o loc _ _ _ _ hA (O.keeps (Kp.refl _)) hxs fun h1 t1 x' k1 r1 => ?_
  refine wpAny_items_nil ?_
  unfold VR at r1
  obtain ⟨a, vs, j, rfl, pa, ga, ra⟩ := r1
  exact join_listW (isList_of ga) (by simpa using strsAre_of ra hys) hx (by omega) fun t' k' => h h1 k' _ k1 ⟨t', rfl⟩
end
end Mine
end
section
open PySem PySem.W PyProof.Rows
namespace Mine
noncomputable abbrev PO (P₀ : Addr → Prop) (o : Option Addr) : Addr → Prop := fun a => P₀ a ∧ o ≠ some a
noncomputable def lc (X : Names) (i : Nat) : Bool := match X.lookup (vn i) with
  | some .local => true
  | some .cell => true
  | _ => false
structure Fo (G : Gl) (X : Names) (env : Env) (P₀ : Addr → Prop) (h₀ : Heap) (o : Option Addr) (loc : Loc) (m : PySem.Str → Option Value) (h : Heap) : Prop where
  kind : env.scope.kind = .function
  names : ∀ x, env.kindOf x = X.lookup x
  noq : X.lookup (PySem.Str.ofString "?") = none
  nofree : ∀ x, X.lookup x ≠ some .free
  glob : env.globals = mainGlobals
  blt : env.builtins = builtinsNs
  base₀ : Base G h₀
  fresh₀ : ∀ a, h₀.get? a = none → P₀ a
  keep : Kp h₀ h
  lfresh : h₀.get? env.locals = none
  ns : h.Ns env.locals m
  cells : ∀ x, X.lookup x = some .cell → ∃ c, env.cells.lookup x = some c
  cfresh : ∀ x c, env.cells.lookup x = some c → h₀.get? c = none ∧ c ≠ env.locals ∧ ∃ cv, h.IsCell c cv
  apart : ∀ x y c, env.cells.lookup x = some c → env.cells.lookup y = some c → x = y
  varL : ∀ i v, loc i = some v → X.lookup (vn i) = some .local → ∃ v', m (vn i) = some v' ∧ VR h (PO P₀ o) o v v'
  varC : ∀ i v, loc i = some v → X.lookup (vn i) = some .cell → ∃ c v', env.cells.lookup (vn i) = some c ∧ h.IsCell c (some v') ∧ VR h (PO P₀ o) o v v'
  own : ∀ a, o = some a → h₀.get? a = none ∧ ∃ vs n, h.get? a = some (listObj vs n)
  one : ∀ i j xs ys, lc X i = true → lc X j = true → loc i = some (.own xs) → loc j = some (.own ys) → i = j
  flag : loc 100 = none → o = none
section
variable {G : Gl} {X : Names} {env : Env} {P₀ : Addr → Prop} {h₀ h h' : Heap} {o : Option Addr} {loc : Loc} {m : PySem.Str → Option Value}
theorem vn_lt (F : Fo G X env P₀ h₀ o loc m h) {i : Nat} {k : NameKind} (e : X.lookup (vn i) = some k) : i < vtab.length := by
  rcases Nat.lt_or_ge i vtab.length with hl | hl
  · exact hl
  · have : vn i = PySem.Str.ofString "?" := by unfold vn; rw [List.getElem?_eq_none hl]
    rw [this, F.noq] at e
    cases e
theorem none_of_kp (k : Kp h h') {a : Addr} (e : h'.get? a = none) : h.get? a = none := by
  cases q : h.get? a with
  | none => rfl
  | some x => rw [k a x q] at e; cases e
theorem Fo.ok (F : Fo G X env P₀ h₀ o loc m h) : Ok G X env (PO P₀ o) o loc h where
  cl := fun x k hk hl => by
    cases k <;> first | cases hl | skip
    · exact F.cells x hk
    · exact absurd hk (F.nofree _)
  kind := F.kind
  names := F.names
  glob := F.glob
  blt := F.blt
  base := F.base₀.keeps F.keep
  fresh := fun a e => ⟨F.fresh₀ a (none_of_kp F.keep e), fun ho => by
    obtain ⟨_, vs, n, g⟩ := F.own a ho
    rw [g] at e; cases e⟩
  vars := fun i v e k hk hl => by
    cases k <;> first | cases hl | skip
    · obtain ⟨v', a, b⟩ := F.varL i v e hk
      exact ⟨v', .loc ((F.names _).trans hk) m F.ns a, b⟩
    · obtain ⟨c, v', a, b, d⟩ := F.varC i v e hk
      exact ⟨v', .cell ((F.names _).trans hk) c a b, d⟩
    · exact absurd hk (F.nofree _)
theorem Fo.keeps (F : Fo G X env P₀ h₀ o loc m h) (k : Kp h h') : Fo G X env P₀ h₀ o loc m h' where
  kind := F.kind
  names := F.names
  noq := F.noq
  nofree := F.nofree
  glob := F.glob
  blt := F.blt
  base₀ := F.base₀
  fresh₀ := F.fresh₀
  keep := F.keep.trans k
  lfresh := F.lfresh
  ns := F.ns.keeps k
  cells := F.cells
  cfresh := fun x c e => let ⟨a, b, cv, d⟩ := F.cfresh x c e; ⟨a, b, cv, d.keeps k⟩
  apart := F.apart
  varL := fun i v e hk => let ⟨v', a, b⟩ := F.varL i v e hk; ⟨v', a, b.keeps k⟩
  varC := fun i v e hk => let ⟨c, v', a, b, d⟩ := F.varC i v e hk; ⟨c, v', a, b.keeps k, d.keeps k⟩
  own := fun a e => let ⟨b, vs, n, g⟩ := F.own a e; ⟨b, vs, n, k _ _ g⟩
  one := F.one
  flag := F.flag
structure St (env : Env) (o o' : Option Addr) (h h' : Heap) : Prop where
  kept : ∀ b ob, b ≠ env.locals → (∀ x c, env.cells.lookup x = some c → b ≠ c) → o ≠ some b → h.get? b = some ob → h'.get? b = some ob
  dom : ∀ a, h'.get? a = none → h.get? a = none
  owner : o' = o ∨ (o = none ∧ ∀ a, o' = some a → h.get? a = none)
theorem St.refl (env : Env) (o : Option Addr) (h : Heap) : St env o o h h := ⟨fun _ _ _ _ _ e => e, fun _ e => e, Or.inl rfl⟩
theorem St.of_kp {env : Env} {o : Option Addr} (k : Kp h h') : St env o o h h' := ⟨fun b ob _ _ _ e => k b ob e, fun _ e => none_of_kp k e, Or.inl rfl⟩
theorem St.trans {env : Env} {o o' o'' : Option Addr} {h h' h'' : Heap} (a : St env o o' h h') (b : St env o' o'' h' h'') : St env o o'' h h'' where
  kept := fun c ob h1 h2 h3 e => b.kept c ob h1 h2 (by
    rcases a.owner with r | ⟨_, r⟩
    · rw [r]; exact h3
    · intro q; rw [r c q] at e; cases e) (a.kept c ob h1 h2 h3 e)
  dom := fun c e => a.dom c (b.dom c e)
  owner := by
    rcases b.owner with r | ⟨r0, r⟩
    · rcases a.owner with q | ⟨q0, q⟩
      · exact Or.inl (r.trans q)
      · exact Or.inr ⟨q0, fun c e => q c (by rw [← r]; exact e)⟩
    · rcases a.owner with q | ⟨q0, q⟩
      · exact Or.inr ⟨by rw [← q]; exact r0, fun c e => a.dom c (r c e)⟩
      · exact Or.inr ⟨q0, fun c e => a.dom c (r c e)⟩
theorem ns_notList {h : Heap} {a : Addr} {m} (hn : h.Ns a m) : ∃ ob, h.get? a = some ob ∧ ∀ vs n, ob ≠ listObj vs n := by
  obtain ⟨ob, es, ep, g, d, _⟩ := hn
  exact ⟨ob, g, fun vs n e => by subst e; cases d⟩
theorem cell_notList {h : Heap} {a : Addr} {cv} (hn : h.IsCell a cv) : ∃ ob, h.get? a = some ob ∧ ∀ vs n, ob ≠ listObj vs n := by
  obtain ⟨ob, g, d⟩ := hn
  exact ⟨ob, g, fun vs n e => by subst e; cases d⟩
theorem upd_self (l : Loc) (i : Nat) (v : V) : upd l i v i = some v := by simp [upd]
theorem upd_ne (l : Loc) {i j : Nat} (v : V) (h : j ≠ i) : upd l i v j = l j := by simp [upd, h]
theorem sameBut_dom {a : Addr} {ob : Obj} (hs : Heap.SameBut a h h') (ha : h'.get? a = some ob) : ∀ b, h'.get? b = none → h.get? b = none := fun b e => by
  by_cases hb : b = a
  · subst hb; rw [ha] at e; cases e
  · rw [← hs.2 b hb]; exact e
theorem Fo.storeO {prog : Program} {w : World} {A : Around} {E : Value → Shared → Prop} {s : Shared} {i : Nat} {v : V} {v' : Value} {Q : Unit → Shared → Prop} (F : Fo G X env P₀ h₀ o loc m s.heap) {k : NameKind} (hk : X.lookup (vn i) = some k)
    (hl : (k == .local || k == .cell) = true) (r : VR s.heap (PO P₀ o) o v v') (hone : ∀ a b xs ys, lc X a = true → lc X b = true → upd loc i v a = some (.own xs) → upd loc i v b = some (.own ys) → a = b)
    (hQ : ∀ h' m' tk, Fo G X env P₀ h₀ o (upd loc i v) m' h' → St env o o s.heap h' → Q () { s with heap := h', toks := tk }) : wpAny (model prog w) A (storeName env (vn i) v') Q E s := by
  have hi := vn_lt F hk
  have hflag : upd loc i v 100 = none → o = none := fun e => F.flag (by rw [← e, upd_ne _ _ (by show (100 : Nat) ≠ i; have : vtab.length = 48 := rfl; omega)])
  cases k <;> first | cases hl | skip
  · -- local
    refine wpAny_storeName_local ((F.names _).trans hk) F.ns (fun h' hn hs => hQ h' (fun x => if x = vn i then some v' else m x) _ ?_ ?_) (by rw [F.kind]; rfl)
    · obtain ⟨ob, gL, nL⟩ := ns_notList F.ns
      refine { F with keep := ?_, ns := hn, cfresh := ?_, varL := ?_, varC := ?_, own := ?_, one := hone, flag := hflag }
      · exact fun b ob e => hs.extBut b ob (fun q => by rw [q, F.lfresh] at e; cases e) (F.keep b ob e)
      · exact fun x c e => let ⟨a, b, cv, d⟩ := F.cfresh x c e; ⟨a, b, cv, d.sameBut hs b⟩
      · intro j u e hj
        by_cases hji : j = i
        · subst hji
          rw [upd_self] at e; cases e
          exact ⟨v', by simp, r.sameBut hs gL nL⟩
        · rw [upd_ne _ _ hji] at e
          obtain ⟨u', a, b⟩ := F.varL j u e hj
          refine ⟨u', ?_, b.sameBut hs gL nL⟩
          rw [if_neg (fun q => hji (vn_inj (vn_lt F hj) hi q))]
          exact a
      · intro j u e hj
        have hji : j ≠ i := by rintro rfl; rw [hk] at hj; cases hj
        rw [upd_ne _ _ hji] at e
        obtain ⟨c, u', a, b, d⟩ := F.varC j u e hj
        exact ⟨c, u', a, b.sameBut hs (F.cfresh _ c a).2.1, d.sameBut hs gL nL⟩
      · intro a e
        obtain ⟨b, vs, n, g⟩ := F.own a e
        exact ⟨b, vs, n, hs.extBut a _ (fun q => by rw [q, gL] at g; exact nL _ _ (Option.some.inj g)) g⟩
    · obtain ⟨ob', gL', _⟩ := ns_notList hn
      exact ⟨fun b ob h1 _ _ e => hs.extBut b ob h1 e, sameBut_dom hs gL', Or.inl rfl⟩
  · -- cell
    obtain ⟨c, hc⟩ := F.cells _ hk
    obtain ⟨cf, cl, cv, hcv⟩ := F.cfresh _ c hc
    refine wpAny_storeName_cell F.kind ((F.names _).trans hk) hc hcv (fun h' hn hs => hQ h' m s.toks ?_ ?_)
    · obtain ⟨ob, gL, nL⟩ := cell_notList hcv
      refine { F with keep := ?_, ns := F.ns.sameBut hs (Ne.symm cl), cfresh := ?_, varL := ?_, varC := ?_, own := ?_, one := hone, flag := hflag }
      · exact fun b ob e => hs.extBut b ob (fun q => by rw [q, cf] at e; cases e) (F.keep b ob e)
      · intro x c' e
        obtain ⟨a, b, cv', d⟩ := F.cfresh x c' e
        by_cases hcc : c' = c
        · subst hcc; exact ⟨a, b, _, hn⟩
        · exact ⟨a, b, cv', d.sameBut hs hcc⟩
      · intro j u e hj
        have hji : j ≠ i := by rintro rfl; rw [hk] at hj; cases hj
        rw [upd_ne _ _ hji] at e
        obtain ⟨u', a, b⟩ := F.varL j u e hj
        exact ⟨u', a, b.sameBut hs gL nL⟩
      · intro j u e hj
        by_cases hji : j = i
        · subst hji
          rw [upd_self] at e; cases e
          exact ⟨c, v', hc, hn, r.sameBut hs gL nL⟩
        · rw [upd_ne _ _ hji] at e
          obtain ⟨c', u', a, b, d⟩ := F.varC j u e hj
          have hcc : c' ≠ c := fun q => hji (vn_inj (vn_lt F hj) hi (F.apart _ _ c (q ▸ a) hc))
          exact ⟨c', u', a, b.sameBut hs hcc, d.sameBut hs gL nL⟩
      · intro a e
        obtain ⟨b, vs, n, g⟩ := F.own a e
        exact ⟨b, vs, n, hs.extBut a _ (fun q => by rw [q, gL] at g; exact nL _ _ (Option.some.inj g)) g⟩
    · obtain ⟨ob', gL', _⟩ := cell_notList hn
      exact ⟨fun b ob _ h2 _ e => hs.extBut b ob (h2 _ c hc) e, sameBut_dom hs gL', Or.inl rfl⟩
theorem Fo.store {prog : Program} {w : World} {A : Around} {E : Value → Shared → Prop} {s : Shared} {i : Nat} {v : V} {v' : Value} {Q : Unit → Shared → Prop} (F : Fo G X env P₀ h₀ o loc m s.heap) {k : NameKind} (hk : X.lookup (vn i) = some k)
    (hl : (k == .local || k == .cell) = true) (r : VR s.heap (PO P₀ o) o v v') (hfree : v.free = true)
    (hQ : ∀ h' m' tk, Fo G X env P₀ h₀ o (upd loc i v) m' h' → St env o o s.heap h' → Q () { s with heap := h', toks := tk }) : wpAny (model prog w) A (storeName env (vn i) v') Q E s := by
  refine F.storeO hk hl r (fun a b xs ys la lb ea eb => ?_) hQ
  have na : a ≠ i := by rintro rfl; rw [upd_self] at ea; cases ea; cases hfree
  have nb : b ≠ i := by rintro rfl; rw [upd_self] at eb; cases eb; cases hfree
  rw [upd_ne _ _ na] at ea
  rw [upd_ne _ _ nb] at eb
  exact F.one a b xs ys la lb ea eb
end
inductive Fl where
  | next (l : Loc)
  | brk (l : Loc)
  | ret (v : V)
section
variable (prog : Program) (w : World) (G : Gl)
noncomputable def After (X : Names) (env : Env) (P₀ : Addr → Prop) (h₀ : Heap) (o : Option Addr) (s : Shared) (Q : Flow → Shared → Prop) : Fl → Prop
  | .next l => ∀ h' m' tk o', Fo G X env P₀ h₀ o' l m' h' → St env o o' s.heap h' → Q .next { s with heap := h', toks := tk }
  | .brk l => ∀ h' m' tk o', Fo G X env P₀ h₀ o' l m' h' → St env o o' s.heap h' → Q .brk { s with heap := h', toks := tk }
  | .ret v => ∀ h' tk v', Kp h₀ h' → VR h' P₀ none v v' → Q (.ret v') { s with heap := h', toks := tk }
noncomputable abbrev DS := Loc → Option Fl
noncomputable def E1 (n : Nat) (X : Names) (st : Stmt) (d : DS) : Prop :=
  ∀ (A : Around) (env : Env) (P₀ : Addr → Prop) (h₀ : Heap) (o : Option Addr) (loc : Loc) (m : PySem.Str → Option Value) (s : Shared) (Q : Flow → Shared → Prop) (E : Value → Shared → Prop) (fl : Fl), AOk n A → Fo G X env P₀ h₀ o loc m s.heap → d loc = some fl →
    After G X env P₀ h₀ o s Q fl → wpAny (model prog w) A (exec st env) Q E s
noncomputable def ES (n : Nat) (X : Names) (st : List Stmt) (d : DS) : Prop :=
  ∀ (A : Around) (env : Env) (P₀ : Addr → Prop) (h₀ : Heap) (o : Option Addr) (loc : Loc) (m : PySem.Str → Option Value) (s : Shared) (Q : Flow → Shared → Prop) (E : Value → Shared → Prop) (fl : Fl), AOk n A → Fo G X env P₀ h₀ o loc m s.heap → d loc = some fl →
    After G X env P₀ h₀ o s Q fl → wpAny (model prog w) A (execs st env) Q E s
end
section
variable {prog : Program} {w : World} {G : Gl} {n : Nat} {X : Names}
theorem After.step {env : Env} {P₀ : Addr → Prop} {h₀ : Heap} {o o' : Option Addr} {s : Shared} {Q : Flow → Shared → Prop} {fl : Fl} {h' : Heap} {tk : Nat} (a : After G X env P₀ h₀ o s Q fl) (st : St env o o' s.heap h') :
    After G X env P₀ h₀ o' { s with heap := h', toks := tk } Q fl := by
  cases fl with
  | next l => exact fun h2 m2 tk2 o2 F2 s2 => a h2 m2 tk2 o2 F2 (st.trans s2)
  | brk l => exact fun h2 m2 tk2 o2 F2 s2 => a h2 m2 tk2 o2 F2 (st.trans s2)
  | ret v => exact fun h2 tk2 v' k r => a h2 tk2 v' k r
noncomputable def sNil : DS := fun l => some (.next l)
noncomputable def sCons (a b : DS) : DS := fun l => (a l).bind fun fl => match fl with
  | .next l' => b l'
  | fl => some fl
theorem ES_nil : ES prog w G n X [] sNil := by
  intro A env P₀ h₀ o loc m s Q E fl hA F hd h
  cases hd
  exact wpAny_execs_nil (h s.heap m s.toks o F (St.refl _ _ _))
theorem ES_cons {st : Stmt} {rest : List Stmt} {a b : DS} (ha : E1 prog w G n X st a) (hb : ES prog w G n X rest b) : ES prog w G n X (st :: rest) (sCons a b) := by
  intro A env P₀ h₀ o loc m s Q E fl hA F hd h
  simp only [sCons, Option.bind_eq_some_iff] at hd
  obtain ⟨f1, hf, hd⟩ := hd
  refine wpAny_execs_cons (ha A env P₀ h₀ o loc m s _ E f1 hA F hf ?_)
  cases f1 with
  | next l =>
    intro h1 m1 t1 o1 F1 s1
    exact hb A env P₀ h₀ o1 l m1 _ Q E fl hA F1 hd (h.step s1)
  | brk l => cases hd; exact h
  | ret v => cases hd; exact h
noncomputable def sSet (i : Nat) (a : DE) : DS := fun l => (a l).bind fun v => if v.free then some (.next (upd l i v)) else none
theorem E1_set {x : PySem.Str} {xp pos : Pos} {e : Expr} {a : DE} (i : Nat) (k : NameKind) (hn : vn i = x) (hk : X.lookup x = some k) (hl : (k == .local || k == .cell) = true) (ha : ET prog w G n X e a)
    (hs : ∀ env : Env, env.scope.kind = .function → (∀ y, env.kindOf y = X.lookup y) → swapsWith e (some (.Name x xp)) pos.line env = pure false) : E1 prog w G n X (.Assign [.Name x xp] e pos) (sSet i a) := by
  intro A env P₀ h₀ o loc m s Q E fl hA F hd h
  simp only [sSet, Option.bind_eq_some_iff] at hd
  obtain ⟨v, hv, hd⟩ := hd
  split at hd <;> cases hd
  rename_i hfree
  subst hn
  refine wpAny_Assign_Name (ha A env _ o loc s _ _ v hA F.ok hv fun h1 t1 v' k1 r1 => ?_) (hs env F.kind F.names)
  refine (F.keeps k1).store (s := { s with heap := h1, toks := t1 }) hk hl r1 hfree fun h2 m2 t2 F2 s2 => ?_
  exact h h2 m2 t2 o F2 ((St.of_kp k1).trans s2)
noncomputable def OpI (n : Nat) (op : Operator) (f : V → V → Option V) : Prop :=
  ∀ (A : Around) (s : Shared) (P : Addr → Prop) (o : Option Addr) (Q : Value → Shared → Prop) (E : Value → Shared → Prop) (x y v : V) (x' y' : Value), AOk n A → f x y = some v → VR s.heap P o x x' → VR s.heap P o y y' →
    (∀ (tk : Nat) (v' : Value), VR s.heap P o v v' → Q v' { s with toks := tk }) → wpAny (model prog w) A (inplaceOp op x' y') Q E s
theorem opI_add : OpI (prog := prog) (w := w) n .Add addV := by
  intro A s P o Q E x y v x' y' hA hf rx ry h
  cases x <;> cases y <;> simp only [addV, Option.some.injEq, reduceCtorEq] at hf
  obtain ⟨t, rfl⟩ := rx
  obtain ⟨u, rfl⟩ := ry
  subst hf
  exact PySem.P.iadd_int (h _ _ ⟨_, rfl⟩)
noncomputable def subI : V → V → Option V
  | .int a, .int b => some (.int (a - b))
  | _, _ => none
theorem opI_sub : OpI (prog := prog) (w := w) n .Sub subI := by
  intro A s P o Q E x y v x' y' hA hf rx ry h
  cases x <;> cases y <;> simp only [subI, Option.some.injEq, reduceCtorEq] at hf
  obtain ⟨t, rfl⟩ := rx
  obtain ⟨u, rfl⟩ := ry
  subst hf
  exact PySem.P.isub_int (h _ _ ⟨_, rfl⟩)
theorem opI_mul : OpI (prog := prog) (w := w) n .Mult mulV := by
  intro A s P o Q E x y v x' y' hA hf rx ry h
  cases x <;> cases y <;> simp only [mulV, reduceCtorEq] at hf
  obtain ⟨t, rfl⟩ := rx
  obtain ⟨u, rfl⟩ := ry
  split at hf
  · rename_i hfit
    cases hf
    exact PySem.P.imul_int (h _ _ ⟨_, rfl⟩) (by unfold IntMulOk; unfold fitsB at hfit; intro hh; rw [hh] at hfit; cases hfit)
  · cases hf
noncomputable def sAug (i : Nat) (f : V → V → Option V) (a : DE) : DS := fun l => (l i).bind fun x => (a l).bind fun y => (f x y).bind fun v => if v.free then some (.next (upd l i v)) else none
theorem E1_aug {x : PySem.Str} {xp pos : Pos} {e : Expr} {op : Operator} {a : DE} {f : V → V → Option V} (i : Nat) (hn : vn i = x) (hk : X.lookup x = some .local) (ha : ET prog w G n X e a) (hop : OpI (prog := prog) (w := w) n op f) :
    E1 prog w G n X (.AugAssign (.Name x xp) op e pos) (sAug i f a) := by
  intro A env P₀ h₀ o loc m s Q E fl hA F hd h
  simp only [sAug, Option.bind_eq_some_iff] at hd
  obtain ⟨x0, hx, y, hy, v, hf, hd⟩ := hd
  split at hd <;> cases hd
  rename_i hfree
  subst hn
  obtain ⟨x', ex, rx⟩ := F.varL i x0 hx hk
  refine wpAny_AugAssign_Name (wpAny_loadName_local F.kind ((F.names _).trans hk) F.ns ex ?_)
  refine ha A env _ o loc s _ _ y hA F.ok hy fun h1 t1 y' k1 r1 => ?_
  refine hop A _ _ o _ _ x0 y v x' y' hA hf (rx.keeps k1) r1 fun t2 v' r2 => ?_
  refine (F.keeps k1).store (s := { s with heap := h1, toks := t2 }) hk rfl r2 hfree fun h2 m2 t2 F2 s2 => ?_
  exact h h2 m2 t2 o F2 ((St.of_kp k1).trans s2)
noncomputable def sIf (t : Loc → Option Bool) (a b : DS) : DS := fun l => (t l).bind fun c => if c then a l else b l
theorem E1_if {test : Expr} {body orelse : List Stmt} {pos : Pos} {t : Loc → Option Bool} {a b : DS} (ht : TT prog w G n X test t) (ha : ES prog w G n X body a) (hb : ES prog w G n X orelse b) : E1 prog w G n X (.If test body orelse pos) (sIf t a b) := by
  intro A env P₀ h₀ o loc m s Q E fl hA F hd h
  simp only [sIf, Option.bind_eq_some_iff] at hd
  obtain ⟨c, hc, hd⟩ := hd
  refine wpAny_If (ht A env _ o loc s _ _ c hA F.ok hc fun h1 t1 k1 => ?_)
  cases c
  · simp only [Bool.false_eq_true, if_false] at hd ⊢
    exact hb A env P₀ h₀ o loc m _ Q E fl hA (F.keeps k1) hd (h.step (St.of_kp k1))
  · simp only [if_true] at hd ⊢
    exact ha A env P₀ h₀ o loc m _ Q E fl hA (F.keeps k1) hd (h.step (St.of_kp k1))
noncomputable def sRet (a : DE) : DS := fun l => (a l).map fun v => .ret v.lend
theorem E1_ret {e : Expr} {pos : Pos} {a : DE} (ha : ET prog w G n X e a) : E1 prog w G n X (.Return (some e) pos) (sRet a) := by
  intro A env P₀ h₀ o loc m s Q E fl hA F hd h
  simp only [sRet, Option.map_eq_some_iff] at hd
  obtain ⟨v, hv, rfl⟩ := hd
  refine wpAny_Return_some (ha A env _ o loc s _ _ v hA F.ok hv fun h1 t1 v' k1 r1 => ?_)
  exact h h1 t1 v' (F.keep.trans k1) (r1.lend (fun a p => p.1) (fun a e => F.fresh₀ a (F.own a e).1))
noncomputable def sBrk : DS := fun l => some (.brk l)
theorem E1_brk {pos : Pos} : E1 prog w G n X (.Break pos) sBrk := by
  intro A env P₀ h₀ o loc m s Q E fl hA F hd h
  cases hd
  exact wpAny_Break (h s.heap m s.toks o F (St.refl _ _ _))
noncomputable def whileD (t : Loc → Option Bool) (a : DS) : Nat → DS
  | 0, _ => none
  | k + 1, l => (t l).bind fun c => if c then (a l).bind fun fl => match fl with
    | .next l' => whileD t a k l'
    | .brk l' => some (.next l')
    | .ret v => some (.ret v) else some (.next l)
theorem E1_while {test : Expr} {body : List Stmt} {pos : Pos} {t : Loc → Option Bool} {a : DS} (fuel : Nat) (ht : TT prog w G n X test t) (ha : ES prog w G n X body a) : E1 prog w G n X (.While test body [] pos) (whileD t a fuel) := by
  intro A env P₀ h₀ o loc m s Q E fl hA F hd h
  refine wpAny_While (codeAny_whileLoop (fun k s' => ∃ h' tk m' o' l', s' = { s with heap := h', toks := tk } ∧ Fo G X env P₀ h₀ o' l' m' h' ∧ St env o o' s.heap h' ∧ whileD t a k l' = some fl) ?_ fuel ⟨s.heap, s.toks, m, o, loc, rfl, F, St.refl _ _ _, hd⟩)
  rintro k s' ⟨h1, t1, m1, o1, l1, rfl, F1, s1, hd1⟩
  cases k with
  | zero => cases hd1
  | succ k =>
    simp only [whileD, Option.bind_eq_some_iff] at hd1
    obtain ⟨c, hc, hd1⟩ := hd1
    refine ht A env _ o1 l1 _ _ _ c hA F1.ok hc fun h2 t2 k2 => ?_
    cases c
    · simp only [Bool.false_eq_true, if_false, Option.some.injEq] at hd1 ⊢
      subst hd1
      exact wpAny_execs_nil (h h2 m1 t2 o1 (F1.keeps k2) (s1.trans (St.of_kp k2)))
    · simp only [if_true, Option.bind_eq_some_iff] at hd1 ⊢
      obtain ⟨f1, hf1, hd1⟩ := hd1
      refine ha A env P₀ h₀ o1 l1 m1 _ _ _ f1 hA (F1.keeps k2) hf1 ?_
      cases f1 with
      | next l2 =>
        intro h3 m3 t3 o3 F3 s3
        exact ⟨k, Nat.lt_succ_self _, h3, t3, m3, o3, l2, rfl, F3, (s1.trans (St.of_kp k2)).trans s3, hd1⟩
      | brk l2 =>
        intro h3 m3 t3 o3 F3 s3
        cases hd1
        exact h h3 m3 t3 o3 F3 ((s1.trans (St.of_kp k2)).trans s3)
      | ret v =>
        intro h3 t3 v' k3 r3
        cases hd1
        exact h h3 t3 v' k3 r3
end
end Mine
end
section
open PySem PySem.W PyProof.Rows
namespace Mine
structure It (prog : Program) (w : World) (A : Around) (P : Addr → Prop) (h₁ : Heap) (I : Value) (xs : List V) (h₂ : Heap) (fp wr : List Addr) (Pv : Nat → Value → Prop) (S : Nat → Heap → Prop) : Prop where
  walk : ∃ a, I = .ref a ∧ Walks prog w A a fp wr xs.length Pv S
  st : S 0 h₂
  fpOk : ∀ b ∈ fp, b ∈ wr ∨ (P b ∧ ∃ vs n, h₂.get? b = some (listObj vs n))
  wrNew : ∀ b ∈ wr, h₁.get? b = none
  wrObj : ∀ j h, S j h → ∀ b ∈ wr, ∃ ob, h.get? b = some ob ∧ ∀ vs n, ob ≠ listObj vs n
  val : ∀ i x v h, xs[i]? = some x → Pv i v → (∀ a vs n, P a → h₂.get? a = some (listObj vs n) → h.get? a = some (listObj vs n)) → VR h P none x v
  small : xs.length ≤ 4096
section
variable (prog : Program) (w : World) (G : Gl)
noncomputable def EI (n : Nat) (X : Names) (e : Expr) (d : Loc → Option (List V)) : Prop :=
  ∀ (A : Around) (env : Env) (P : Addr → Prop) (o : Option Addr) (loc : Loc) (s : Shared) (Q : Value → Shared → Prop) (E : Value → Shared → Prop) (xs : List V), AOk n A → Ok G X env P o loc s.heap → d loc = some xs →
    (∀ (h' : Heap) (tk : Nat) (I : Value) (fp wr : List Addr) (Pv : Nat → Value → Prop) (S : Nat → Heap → Prop), Kp s.heap h' → It prog w A P s.heap I xs h' fp wr Pv S → Q I { s with heap := h', toks := tk }) →
    wpAny (model prog w) A (eval e env) (fun v s₁ => wpAny (model prog w) A (pyIter v) Q E s₁) E s
end
section
variable {prog : Program} {w : World} {G : Gl} {n : Nat} {X : Names}
noncomputable def iList (a : DE) : Loc → Option (List V) := fun l => match a l with
  | some (.list xs) => if xs.length ≤ 4096 then some xs else none
  | _ => none
theorem EI_list {e : Expr} {a : DE} (ha : ET prog w G n X e a) : EI prog w G n X e (iList a) := by
  intro A env P o loc s Q E xs hA O hd h
  unfold iList at hd
  split at hd
  case h_2 => cases hd
  rename_i ys hy
  split at hd <;> cases hd
  rename_i hle
  refine ha A env P o loc s _ _ _ hA O hy fun h1 t1 v' k1 r1 => ?_
  unfold VR at r1
  obtain ⟨a, vs, j, rfl, pa, ga, ra⟩ := r1
  refine wpAny_pyIter_list (isList_of ga) ?_
  have hI : h1.get? h1.objs.size = none := fresh_size h1
  have hne : a ≠ h1.objs.size := fun q => by rw [q, hI] at ga; cases ga
  have W := Walks.list (prog := prog) (w := w) hA.handled h1.objs.size a hne vs.toArray
  simp only [List.size_toArray, ← ra.length] at W
  have S0 : (h1.push { cls := .type "list_iterator", data := .fields #[.ref a, .int 0 0] }).IsListIter h1.objs.size a 0 := ⟨_, Heap.get?_push_size _ rfl, rfl, rfl⟩
  refine h _ _ _ _ _ _ _ (k1.trans (Kp.push _ _)) (It.mk ⟨_, rfl, W⟩ ⟨S0, (isList_of ga).push _⟩ ?_ ?_ ?_ ?_ hle)
  · intro b hb
    rcases List.mem_cons.mp hb with rfl | hb
    · exact Or.inl (List.mem_singleton.mpr rfl)
    · rw [List.mem_singleton] at hb
      subst hb
      exact Or.inr ⟨pa, vs, j, Heap.get?_push_of_some _ ga⟩
  · intro b hb
    rw [List.mem_singleton] at hb
    subst hb
    exact none_of_kp k1 hI
  · intro j' h' hS b hb
    rw [List.mem_singleton] at hb
    subst hb
    obtain ⟨ob, g, c, d⟩ := hS.1
    exact ⟨ob, g, fun vs n e => by rw [e] at d; cases d⟩
  · intro i x v h' hx hv hk
    obtain ⟨u, hu, ru⟩ := VRs.get ra hx
    have : v = u := by
      have hv' : vs.toArray[i]? = some v := hv
      simp only [List.getElem?_toArray] at hv'
      rw [hu] at hv'
      exact (Option.some.inj hv').symm
    subst this
    exact VR.mono (fun a vs n p g => ⟨p, hk a vs n p (Heap.get?_push_of_some _ g)⟩) (fun a vs n p g => by cases p) x ru
noncomputable def signs (x : PySem.Str) : List V := x.cps.toList.map fun c => .str ⟨#[c]⟩
noncomputable def iStr (a : DE) : Loc → Option (List V) := fun l => match a l with
  | some (.str x) => if x.cps.size ≤ 4096 then some (signs x) else none
  | _ => none
theorem EI_str {e : Expr} {a : DE} (ha : ET prog w G n X e a) : EI prog w G n X e (iStr a) := by
  intro A env P o loc s Q E xs hA O hd h
  unfold iStr at hd
  split at hd
  case h_2 => cases hd
  rename_i y hy
  split at hd <;> cases hd
  rename_i hle
  refine ha A env P o loc s _ _ _ hA O hy fun h1 t1 v' k1 r1 => ?_
  obtain ⟨t, rfl⟩ := r1
  have hI : h1.get? h1.objs.size = none := fresh_size h1
  have key : ∀ (ty : String) (ob : Obj), ob = ({ cls := .type ty, data := .fields #[.str y t, .int 0 0] } : Obj) → (∀ vs n, ob ≠ listObj vs n) → Walks prog w A h1.objs.size [h1.objs.size] [h1.objs.size] y.cps.size (SignAt y) (fun i h => h.IsStrIter h1.objs.size ty y t i) → (ty ≠ "list") →
      Q (.ref h1.objs.size) { s with heap := h1.push ob, toks := t1 } := by
    intro ty ob hob hnl W hty
    subst hob
    have e : (signs y).length = y.cps.size := by simp [signs]
    rw [← e] at W
    have S0 : (h1.push { cls := .type ty, data := .fields #[.str y t, .int 0 0] }).IsStrIter h1.objs.size ty y t 0 := ⟨_, Heap.get?_push_size _ rfl, rfl, rfl⟩
    refine h _ _ _ _ _ _ _ (k1.trans (Kp.push _ _)) (It.mk ⟨_, rfl, W⟩ S0 (fun b hb => Or.inl hb) ?_ ?_ ?_ (by simpa [signs] using hle))
    · intro b hb
      rw [List.mem_singleton] at hb
      subst hb
      exact none_of_kp k1 hI
    · intro j' h' hS b hb
      rw [List.mem_singleton] at hb
      subst hb
      obtain ⟨ob, g, c, d⟩ := hS
      exact ⟨ob, g, fun vs n e => by subst e; cases d⟩
    · intro i x v h' hx hv hk
      obtain ⟨c, u, hc, rfl⟩ := hv
      have : x = .str ⟨#[c]⟩ := by
        simp only [signs, List.getElem?_map, Array.getElem?_toList, hc, Option.map_some, Option.some.injEq] at hx
        exact hx.symm
      subst this
      exact ⟨u, rfl⟩
  cases ha : y.cps.all (· < 128)
  · exact wpAny_pyIter_wide ha (key "str_iterator" _ rfl (fun vs n e => by have := congrArg Obj.data e; cases this) (Walks.strWide hA.handled _ y t) (by decide))
  · exact wpAny_pyIter_ascii ha (key "str_ascii_iterator" _ rfl (fun vs n e => by have := congrArg Obj.data e; cases this) (Walks.strAscii hA.handled _ y t) (by decide))
noncomputable def rangeL (a : Int) (n : Nat) : List V := (List.range n).map fun (k : Nat) => .int (a + k)
theorem rangeL_length (a : Int) (n : Nat) : (rangeL a n).length = n := by simp [rangeL]
noncomputable def rangeV : List V → Option (List V)
  | [.int n] => if -4096 ≤ n ∧ n ≤ 4096 then some (rangeL 0 n.toNat) else none
  | [.int a, .int b] => if -4096 ≤ a ∧ a ≤ 4096 ∧ -4096 ≤ b ∧ b - a ≤ 4096 then some (rangeL a (b - a).toNat) else none
  | _ => none
noncomputable def iRange (a : Loc → Option (List V)) : Loc → Option (List V) := fun l => (a l).bind rangeV
theorem rangeSize_nat (a b : Int) : Builtin.Range.rangeSize a b 1 = ((b - a).toNat : Int) := by
  rw [rangeSize_one]; split <;> omega
theorem iter_range {A : Around} {P : Addr → Prop} {s : Shared} {Q : Value → Shared → Prop} {E : Value → Shared → Prop} {n : Nat} {s₁ : Heap} (hA : AOk n A) (a b : Int) (r : Addr) (t u v : Tok) (k : Kp s₁ s.heap) (hr : IsRange s.heap r a b 1 t u v)
    (h1 : -4096 ≤ a) (h2 : a ≤ 4096) (h3 : -4096 ≤ b) (h4 : b - a ≤ 4096)
    (h : ∀ (h' : Heap) (tk : Nat) (I : Value) (fp wr : List Addr) (Pv : Nat → Value → Prop) (S : Nat → Heap → Prop), Kp s₁ h' → It prog w A P s₁ I (rangeL a (b - a).toNat) h' fp wr Pv S → Q I { s with heap := h', toks := tk }) :
    wpAny (model prog w) A (pyIter (.ref r)) Q E s := by
  refine wpAny_pyIter_range hr (small_one (by omega) (by omega) (by omega) (by omega)) ?_
  have hI : s.heap.get? s.heap.objs.size = none := fresh_size s.heap
  have W := Walks.range (prog := prog) (w := w) hA.handled s.heap.objs.size a 1 (b - a).toNat
  have e : (rangeL a (b - a).toNat).length = (b - a).toNat := rangeL_length _ _
  have S0 : IsRangeIter (s.heap.push { cls := .type "range_iterator", data := .fields #[rawInt a, rawInt (Builtin.Range.rangeSize a b 1), rawInt 1] }) s.heap.objs.size (a + (0 : Nat) * 1) ((b - a).toNat - (0 : Nat)) 1 := by
    have := Heap.get?_push_size s.heap (o := { cls := .type "range_iterator", data := .fields #[rawInt a, rawInt (Builtin.Range.rangeSize a b 1), rawInt 1] }) rfl
    rw [rangeSize_nat] at this ⊢
    simpa using this
  rw [← e] at W S0
  refine h _ s.toks _ _ _ _ _ (k.trans (Kp.push _ _)) (It.mk ⟨_, rfl, W⟩ S0 (fun b hb => Or.inl hb) ?_ ?_ ?_ (by rw [e]; omega))
  · intro b hb
    rw [List.mem_singleton] at hb
    subst hb
    exact none_of_kp k hI
  · intro j' h' hS b hb
    rw [List.mem_singleton] at hb
    subst hb
    exact ⟨_, hS, fun vs n e => by have := congrArg Obj.data e; cases this⟩
  · intro i x v h' hx hv hk
    obtain ⟨t, rfl⟩ := hv
    simp only [rangeL, List.getElem?_map, Option.map_eq_some_iff] at hx
    obtain ⟨j, hj, rfl⟩ := hx
    rw [List.getElem?_range (by
      rcases Nat.lt_or_ge i (b - a).toNat with hh | hh
      · exact hh
      · rw [List.getElem?_eq_none (by simpa using hh)] at hj; cases hj)] at hj
    cases hj
    exact ⟨t, by simp⟩
theorem EI_range {x : PySem.Str} {xp pos : Pos} {e : Expr} {rest : List Expr} {a : Loc → Option (List V)} (hn : NameOk G x (.type "range")) (hk : X.lookup x = some .globalImplicit)
    (hd : (x == ("__debug__" : PySem.Str)) = false) (ha : ETs prog w G n X (e :: rest) a)
    (he : ∀ env, starEach (e :: rest) env = (false, eval e env) :: starEach rest env) (hplain : ∀ env, (backTo pos (starEach rest env)).any (·.1) = false) :
    EI prog w G n X (.Call (.Name x xp) (e :: rest) [] pos) (iRange a) := by
  intro A env P o loc s Q E xs hA O hd' h
  simp only [iRange, Option.bind_eq_some_iff] at hd'
  obtain ⟨vs, hvs, hS⟩ := hd'
  refine wpAny_Call_Name_kw (name_ok hn O hk hd ?_)
  have hpl : (backTo pos (starEach (e :: rest) env)).any (·.1) = false := by
    rw [he env]
    show (false || (backTo pos (starEach rest env)).any (·.1)) = false
    rw [hplain]; rfl
  refine PySem.callWith_type hpl ?_
  have key : wpAny (model prog w) A (spliced (backTo pos (starEach (e :: rest) env))) (fun vs' s₁ => wpAny (model prog w) A (call (.type "range") vs') (fun v s₂ => wpAny (model prog w) A (pyIter v) Q E s₂) E s₁) E s := by
    refine ha A env P o loc s pos _ _ vs hA O hvs fun h1 t1 vs' k1 r1 => ?_
    unfold rangeV at hS
    split at hS
    · rename_i m
      split at hS <;> cases hS
      rename_i hle
      cases vs' with
      | nil => unfold VRs at r1; exact r1.elim
      | cons v' r =>
        unfold VRs at r1
        obtain ⟨r1, r2⟩ := r1
        cases r with
        | cons => unfold VRs at r2; exact r2.elim
        | nil =>
          obtain ⟨t, rfl⟩ := r1
          refine call_range_1 ?_
          refine iter_range (P := P) (s₁ := s.heap) hA 0 m _ _ _ _ (k1.trans (Kp.push _ _)) (IsRange.new _ _ _ _ _ _ _) (by omega) (by omega) (by omega) (by omega) ?_
          have e : (m - 0).toNat = m.toNat := by omega
          rw [e]
          exact fun h' tk I fp wr Pv S k => h h' tk I fp wr Pv S k
    · rename_i a b
      split at hS <;> cases hS
      rename_i hle
      cases vs' with
      | nil => unfold VRs at r1; exact r1.elim
      | cons v' r =>
        unfold VRs at r1
        obtain ⟨r1, r2⟩ := r1
        cases r with
        | nil => unfold VRs at r2; exact r2.elim
        | cons u' r =>
          unfold VRs at r2
          obtain ⟨r2, r3⟩ := r2
          cases r with
          | cons => unfold VRs at r3; exact r3.elim
          | nil =>
            obtain ⟨t, rfl⟩ := r1
            obtain ⟨u, rfl⟩ := r2
            refine call_range_2 ?_
            exact iter_range (P := P) (s₁ := s.heap) hA a b _ _ _ _ (k1.trans (Kp.push _ _)) (IsRange.new _ _ _ _ _ _ _) (by omega) (by omega) (by omega) (by omega) fun h' tk I fp wr Pv S k => h h' tk I fp wr Pv S k
    · cases hS
  rw [he env] at key ⊢
  exact Calls.evalArgs_plain key
end
end Mine
end
section
open PySem PySem.W PyProof.Rows
namespace Mine
section
variable {prog : Program} {w : World} {G : Gl} {n : Nat} {X : Names}
structure StW (env : Env) (wr : List Addr) (o o' : Option Addr) (h h' : Heap) : Prop where
  kept : ∀ b ob, b ≠ env.locals → (∀ x c, env.cells.lookup x = some c → b ≠ c) → o ≠ some b → b ∉ wr → h.get? b = some ob → h'.get? b = some ob
  dom : ∀ a, h'.get? a = none → h.get? a = none
  owner : o' = o ∨ (o = none ∧ ∀ a, o' = some a → h.get? a = none)
theorem StW.step {env : Env} {wr : List Addr} {o o' o'' : Option Addr} {h h' h'' : Heap} (a : StW env wr o o' h h') (b : St env o' o'' h' h'') : StW env wr o o'' h h'' where
  kept := fun c ob h1 h2 h3 h4 e => b.kept c ob h1 h2 (by
    rcases a.owner with r | ⟨_, r⟩
    · rw [r]; exact h3
    · intro q; rw [r c q] at e; cases e) (a.kept c ob h1 h2 h3 h4 e)
  dom := fun c e => a.dom c (b.dom c e)
  owner := by
    rcases b.owner with r | ⟨r0, r⟩
    · rcases a.owner with q | ⟨q0, q⟩
      · exact Or.inl (r.trans q)
      · exact Or.inr ⟨q0, fun c e => q c (by rw [← r]; exact e)⟩
    · rcases a.owner with q | ⟨q0, q⟩
      · exact Or.inr ⟨by rw [← q]; exact r0, fun c e => a.dom c (r c e)⟩
      · exact Or.inr ⟨q0, fun c e => a.dom c (r c e)⟩
theorem StW.next {env : Env} {wr : List Addr} {o o' : Option Addr} {h h' h'' : Heap} (a : StW env wr o o' h h') (hk : ∀ b ob, b ∉ wr → h'.get? b = some ob → h''.get? b = some ob) (hw : ∀ b ∈ wr, ∃ ob, h''.get? b = some ob) : StW env wr o o' h h'' where
  kept := fun c ob h1 h2 h3 h4 e => hk c ob h4 (a.kept c ob h1 h2 h3 h4 e)
  dom := fun c e => a.dom c (by
    cases q : h'.get? c with
    | none => rfl
    | some ob =>
      by_cases hc : c ∈ wr
      · obtain ⟨ob', e'⟩ := hw c hc; rw [e'] at e; cases e
      · rw [hk c ob hc q] at e; cases e)
  owner := a.owner
theorem Fo.other {env : Env} {P₀ : Addr → Prop} {h₀ h h' : Heap} {o : Option Addr} {loc : Loc} {m : PySem.Str → Option Value} {wr : List Addr} (F : Fo G X env P₀ h₀ o loc m h) (hk : ∀ b ob, b ∉ wr → h.get? b = some ob → h'.get? b = some ob)
    (hw : ∀ b ∈ wr, h₀.get? b = none ∧ b ≠ env.locals ∧ (∀ x c, env.cells.lookup x = some c → b ≠ c) ∧ ∃ ob, h.get? b = some ob ∧ ∀ vs n, ob ≠ listObj vs n) : Fo G X env P₀ h₀ o loc m h' := by
  have hlist : ∀ a vs n, h.get? a = some (listObj vs n) → h'.get? a = some (listObj vs n) := fun a vs n g => hk a _ (fun q => by
    obtain ⟨_, _, _, ob, e, hn⟩ := hw a q
    rw [e] at g; exact hn _ _ (Option.some.inj g)) g
  have hVR : ∀ {v : V} {v' : Value}, VR h (PO P₀ o) o v v' → VR h' (PO P₀ o) o v v' := fun r => VR.mono (fun a vs n p g => ⟨p, hlist a vs n g⟩) (fun a vs n p g => ⟨p, hlist a vs n g⟩) _ r
  have hcell : ∀ x c cv, env.cells.lookup x = some c → h.IsCell c cv → h'.IsCell c cv := fun x c cv e ⟨ob, g, d⟩ => ⟨ob, hk c ob (fun q => (hw c q).2.2.1 x c e rfl) g, d⟩
  refine { F with keep := ?_, ns := ?_, cfresh := ?_, varL := ?_, varC := ?_, own := ?_ }
  · exact fun b ob e => hk b ob (fun q => by rw [(hw b q).1] at e; cases e) (F.keep b ob e)
  · exact F.ns.at' fun ob e => hk _ ob (fun q => (hw _ q).2.1 rfl) e
  · exact fun x c e => let ⟨a, b, cv, d⟩ := F.cfresh x c e; ⟨a, b, cv, hcell x c cv e d⟩
  · exact fun i v e hi => let ⟨v', a, b⟩ := F.varL i v e hi; ⟨v', a, hVR b⟩
  · exact fun i v e hi => let ⟨c, v', a, b, d⟩ := F.varC i v e hi; ⟨c, v', a, hcell _ c _ a b, hVR d⟩
  · exact fun a e => let ⟨b, vs, n, g⟩ := F.own a e; ⟨b, vs, n, hlist a vs n g⟩
noncomputable def forD (i : Nat) (b : DS) : List V → DS
  | [], l => some (.next l)
  | x :: r, l => (b (upd l i x)).bind fun fl => match fl with
    | .next l' => forD i b r l'
    | .brk l' => some (.next l')
    | .ret v => some (.ret v)
noncomputable def sFor (i : Nat) (xs : Loc → Option (List V)) (b : DS) : DS := fun l => (xs l).bind fun ys => forD i b ys l
theorem E1_for {x : PySem.Str} {xp pos : Pos} {iter : Expr} {body : List Stmt} {d : Loc → Option (List V)} {b : DS} (i : Nat) (k : NameKind) (hn : vn i = x) (hk : X.lookup x = some k) (hl : (k == .local || k == .cell) = true)
    (hi : EI prog w G n X iter d) (hb : ES prog w G n X body b) (hs : ∀ env x, foldedSetIterable iter env x = pure x) : E1 prog w G n X (.For (.Name x xp) iter body [] pos) (sFor i d b) := by
  intro A env P₀ h₀ o loc m s Q E fl hA F hd h
  simp only [sFor, Option.bind_eq_some_iff] at hd
  obtain ⟨xs, hxs, hd⟩ := hd
  subst hn
  refine wpAny_For (hi A env _ o loc s _ _ xs hA F.ok hxs fun h2 t2 I fp wr Pv S k2 it => ?_) (hs env)
  obtain ⟨I, rfl, W⟩ := it.walk
  have F2 := F.keeps k2
  -- what the iterator writes is apart from the frame
  have apart : ∀ b ∈ wr, h₀.get? b = none ∧ b ≠ env.locals ∧ (∀ x c, env.cells.lookup x = some c → b ≠ c) := fun b hb => by
    have hnew := it.wrNew b hb
    refine ⟨none_of_kp F.keep hnew, fun q => ?_, fun x c e q => ?_⟩
    · obtain ⟨ob, g, _⟩ := ns_notList F.ns
      rw [q, g] at hnew; cases hnew
    · obtain ⟨_, _, cv, hcv⟩ := F.cfresh x c e
      obtain ⟨ob, g, _⟩ := cell_notList hcv
      rw [q, g] at hnew; cases hnew
  have wrOwn : ∀ {o' : Option Addr} {h' : Heap} {l' : Loc} {m' : PySem.Str → Option Value} {j : Nat}, Fo G X env P₀ h₀ o' l' m' h' → S j h' → ∀ b ∈ wr, o' ≠ some b := fun F' hS b hb q => by
    obtain ⟨_, vs, k, g⟩ := F'.own b q
    obtain ⟨ob, g', hn⟩ := it.wrObj _ _ hS b hb
    rw [g'] at g; exact hn _ _ (Option.some.inj g)
  -- the objects that the walk reads stay through the body
  have stay : ∀ {o1 o2 : Option Addr} {h3 h4 : Heap} {l' : Loc} {m' : PySem.Str → Option Value} {j : Nat}, Fo G X env P₀ h₀ o1 l' m' h3 → StW env wr o o1 h2 h3 → S j h3 → St env o1 o2 h3 h4 → S j h4 := by
    intro o1 o2 h3 h4 l' m' j F3 s3 hS s4
    refine W.frame j h3 h4 hS fun b hb ob e => ?_
    rcases it.fpOk b hb with hw | ⟨hp, vs, k, g⟩
    · exact s4.kept b ob (apart b hw).2.1 (apart b hw).2.2 (wrOwn F3 hS b hw) e
    · have h1 : b ≠ env.locals := fun q => by
        obtain ⟨ob, g', hn⟩ := ns_notList F2.ns
        rw [← q, g] at g'; exact hn _ _ (Option.some.inj g').symm
      have h2' : ∀ x c, env.cells.lookup x = some c → b ≠ c := fun x c e' q => by
        obtain ⟨_, _, cv, hcv⟩ := F2.cfresh x c e'
        obtain ⟨ob, g', hn⟩ := cell_notList hcv
        rw [← q, g] at g'; exact hn _ _ (Option.some.inj g').symm
      refine s4.kept b ob h1 h2' ?_ e
      rcases s3.owner with r | ⟨_, r⟩
      · rw [r]; exact hp.2
      · intro q; rw [r b q] at g; cases g
  refine codeAny_forLoop (fun k s' => ∃ j h' tk m' o' l', k = xs.length - j ∧ j ≤ xs.length ∧ s' = { s with heap := h', toks := tk } ∧ Fo G X env P₀ h₀ o' l' m' h' ∧ StW env wr o o' h2 h' ∧ S j h' ∧ forD i b (xs.drop j) l' = some fl) ?_ xs.length
    ⟨0, h2, t2, m, o, loc, rfl, Nat.zero_le _, rfl, F2, ⟨fun _ _ _ _ _ _ e => e, fun _ e => e, Or.inl rfl⟩, it.st, hd⟩ (fun _ => rfl)
  rintro k' s' ⟨j, h3, t3, m3, o3, l3, rfl, hj, rfl, F3, s3, hS, hd3⟩
  have fin : ∀ {h4 : Heap} {o4 : Option Addr}, Kp s.heap h2 → StW env wr o o4 h2 h4 → St env o o4 s.heap h4 := fun {h4 o4} k2 s4 => ⟨fun b ob h1 h2' h3' e => s4.kept b ob h1 h2' h3' (fun q => by rw [it.wrNew b q] at e; cases e) (k2 b ob e),
    fun a e => none_of_kp k2 (s4.dom a e), by
      rcases s4.owner with r | ⟨r0, r⟩
      · exact Or.inl r
      · exact Or.inr ⟨r0, fun a e => none_of_kp k2 (r a e)⟩⟩
  by_cases hlt : j < xs.length
  · refine W.item j _ _ _ hlt hS fun v h4 t4 hv hS4 hk4 => ?_
    have hx : xs[j]? = some xs[j] := List.getElem?_eq_getElem hlt
    have F4 : Fo G X env P₀ h₀ o3 l3 m3 h4 := F3.other hk4 fun b hb => ⟨(apart b hb).1, (apart b hb).2.1, (apart b hb).2.2, it.wrObj _ _ hS b hb⟩
    have s4 : StW env wr o o3 h2 h4 := s3.next hk4 fun b hb => let ⟨ob, e, _⟩ := it.wrObj _ _ hS4 b hb; ⟨ob, e⟩
    have lists : ∀ a vs k, PO P₀ o a → h2.get? a = some (listObj vs k) → h4.get? a = some (listObj vs k) := fun a vs k p g => by
      refine s4.kept a _ (fun q => ?_) (fun x c e' q => ?_) p.2 (fun q => ?_) g
      · obtain ⟨ob, g', hn⟩ := ns_notList F2.ns
        rw [← q, g] at g'; exact hn _ _ (Option.some.inj g').symm
      · obtain ⟨_, _, cv, hcv⟩ := F2.cfresh x c e'
        obtain ⟨ob, g', hn⟩ := cell_notList hcv
        rw [← q, g] at g'; exact hn _ _ (Option.some.inj g').symm
      · obtain ⟨ob, g', hn⟩ := it.wrObj _ _ it.st a q
        rw [g'] at g; exact hn _ _ (Option.some.inj g)
    have rv2 : VR h2 (PO P₀ o) none xs[j] v := it.val j _ v h2 hx hv fun _ _ _ _ g => g
    have rv : VR h4 (PO P₀ o3) o3 xs[j] v := VR.unown (o := none) rv2.none_free (VR.mono (fun a vs k p g => ⟨⟨p.1, fun q => by
      rcases s4.owner with r | ⟨_, r⟩
      · exact p.2 (r ▸ q)
      · rw [r a q] at g; cases g⟩, lists a vs k p g⟩) (fun a vs k p g => by cases p) _ rv2)
    refine wpAny_assign_Name (F4.store (s := { s with heap := h4, toks := t4 }) hk hl rv rv2.none_free fun h5 m5 t5 F5 s5 => ?_)
    rw [List.drop_eq_getElem_cons hlt] at hd3
    simp only [forD, Option.bind_eq_some_iff] at hd3
    obtain ⟨f1, hf1, hd3⟩ := hd3
    have hS5 : S (j + 1) h5 := stay F4 s4 hS4 s5
    have s5' := s4.step s5
    refine hb A env P₀ h₀ o3 _ m5 _ _ _ f1 hA F5 hf1 ?_
    cases f1 with
    | next l6 =>
      intro h6 m6 t6 o6 F6 s6
      exact ⟨xs.length - (j + 1), by omega, j + 1, h6, t6, m6, o6, l6, rfl, hlt, rfl, F6, s5'.step s6, stay F5 s5' hS5 s6, hd3⟩
    | brk l6 =>
      intro h6 m6 t6 o6 F6 s6
      cases hd3
      exact h h6 m6 t6 o6 F6 (fin k2 (s5'.step s6))
    | ret v =>
      intro h6 t6 v' k6 r6
      cases hd3
      exact h h6 t6 v' k6 r6
  · have hj' : j = xs.length := by omega
    subst hj'
    refine W.done _ _ _ hS fun h4 t4 hk4 => ?_
    rw [List.drop_of_length_le (Nat.le_refl _)] at hd3
    cases hd3
    have F4 : Fo G X env P₀ h₀ o3 l3 m3 h4 := F3.other hk4 fun b hb => ⟨(apart b hb).1, (apart b hb).2.1, (apart b hb).2.2, it.wrObj _ _ hS b hb⟩
    refine wpAny_execs_nil (h h4 m3 t4 o3 F4 ⟨fun b ob h1 h2' h3' e => ?_, fun a e => ?_, ?_⟩)
    · have hbw : b ∉ wr := fun q => by rw [it.wrNew b q] at e; cases e
      exact hk4 b ob hbw (s3.kept b ob h1 h2' h3' hbw (k2 b ob e))
    · cases q : s.heap.get? a with
      | none => rfl
      | some ob =>
        have haw : a ∉ wr := fun q' => by rw [it.wrNew a q'] at q; cases q
        cases q3 : h3.get? a with
        | none => have := s3.dom a q3; rw [k2 a ob q] at this; cases this
        | some ob3 => rw [hk4 a ob3 haw q3] at e; cases e
    · rcases s3.owner with r | ⟨r0, r⟩
      · exact Or.inl r
      · exact Or.inr ⟨r0, fun a e => none_of_kp k2 (r a e)⟩
end
end Mine
end
section
open PySem PySem.W PyProof.Rows
namespace Mine
section
variable {prog : Program} {w : World} {G : Gl} {n : Nat} {X : Names}
theorem inplace_list {A : Around} {E : Value → Shared → Prop} {s : Shared} {a b : Addr} {vs ws : List Value} {j k : Nat} {Q : Value → Shared → Prop} (ga : s.heap.get? a = some (listObj vs j)) (gb : s.heap.get? b = some (listObj ws k)) (hsz : vs.length + ws.length ≤ 8192)
    (h : ∀ h' i, h'.get? a = some (listObj (vs ++ ws) i) → Heap.SameBut a s.heap h' → Q (.ref a) { s with heap := h' }) : wpAny (model prog w) A (inplaceOp .Add (.ref a) (.ref b)) Q E s := by
  have ha : s.TypeIs (.ref a) "list" := ⟨_, ga, rfl⟩
  have hb : s.TypeIs (.ref b) "list" := ⟨_, gb, rfl⟩
  have hL : typeLookup (.type "list") (dunderI "add") = pure (some (.builtin "list.__iadd__")) := F.slot_list_iadd.lookup
  have hS : isSeqSlot (some (.builtin "list.__iadd__")) = true := by decide +kernel
  unfold inplaceOp
  refine wpAny_holding ?_
  have hfi : fillsInplaceSlot (.type "list") "add" (Operator.Add == .Add) = pure false := by
    unfold fillsInplaceSlot
    show (typeLookup (.type "list") (dunderI "add") >>= fun fi => pure (fi.isSome && !isSeqSlot fi)) = pure false
    rw [hL]
    simp only [pure_bind, hS]
    rfl
  have hsi : seqSlot? (.type "list") (dunderI "add") = pure (some (.builtin "list.__iadd__")) := by
    unfold seqSlot?
    rw [hL]
    simp only [pure_bind, hS]
    rfl
  refine wpAny_bind (wpAny_typeOf ha (wpAny_bind (wpAny_of_eq hfi ?_)))
  show wpAny _ A (if false = true then _ else _) Q E s
  rw [if_neg Bool.false_ne_true]
  refine wpAny_bind (wpAny_binaryOp1_none (nm := "add") ha hb noFill_list_add ?_)
  refine wpAny_bind (wpAny_of_eq hsi ?_)
  refine wpAny_bind (wpAny_rule (call_meets F.slot_list_iadd ha F.entry_list_iadd (F.args_list_iadd_2 _ _)
    (AutoSeq1.list___iadd___list_list_0 a vs.toArray j b ws.toArray k ?_ ?_ ?_) ⟨ga, gb, ?_⟩))
  · simp [Builtin.List.listTooLong, sizeLine]; omega
  · simp [sizeLine]; omega
  · simp [sizeLine]; omega
  · have e : ∃ i, Obj.mapSeq (fun x => x ++ ws.toArray) (listObj vs j) = listObj (vs ++ ws) i := by
      refine ⟨if ((vs.toArray ++ ws.toArray).size == vs.toArray.size) = true then j else j + 1, ?_⟩
      have e' : vs.toArray ++ ws.toArray = (vs ++ ws).toArray := by simp
      unfold listObj
      rw [← e']
      rfl
    obtain ⟨i, e⟩ := e
    exact h _ i (by rw [← e]; exact Heap.get?_update_self _ ga (by rw [e]; rfl)) (Heap.SameBut.update ..)
noncomputable def ETf (prog : Program) (w : World) (G : Gl) (n : Nat) (X : Names) (e : Expr) (d : Loc → Option (List V)) : Prop :=
  ∀ (A : Around) (env : Env) (P : Addr → Prop) (o : Option Addr) (loc : Loc) (s : Shared) (Q : Value → Shared → Prop) (E : Value → Shared → Prop) (xs : List V), AOk n A → Ok G X env P o loc s.heap → d loc = some xs →
    (∀ (h' : Heap) (tk : Nat) (vs : List Value) (k : Nat), Kp s.heap h' → VRs h' P xs vs → Q (.ref h'.objs.size) { s with heap := h'.push (listObj vs k), toks := tk }) → wpAny (model prog w) A (eval e env) Q E s
noncomputable def fList (a : Loc → Option (List V)) : Loc → Option (List V) := fun l => (a l).bind fun xs => if xs.length ≤ 4096 then some xs else none
theorem ETf_list {es : List Expr} {pos : Pos} {a : Loc → Option (List V)} (ha : ETs prog w G n X es a) : ETf prog w G n X (.List es pos) (fList a) := by
  intro A env P o loc s Q E v hA O hd h
  simp only [fList, Option.bind_eq_some_iff] at hd
  obtain ⟨xs, hx, hd⟩ := hd
  split at hd
  case isFalse => cases hd
  cases hd
  rename_i hle
  refine wpAny_List (ha A env P o loc s pos _ _ _ hA O hx fun h1 t1 xs' k1 r1 => ?_)
  exact ⟨by rw [← r1.length]; exact Nat.le_trans hle (by decide), h h1 t1 xs' 0 k1 r1⟩
noncomputable def fRep (c : V) (a : DE) : Loc → Option (List V) := fun l => match a l with
  | some (.int k) => if k ≤ 4096 ∧ -4096 ≤ k then some (List.replicate k.toNat c) else none
  | _ => none
theorem ETf_rep {c : Int} {ck : Nat} {cp lp pos : Pos} {e : Expr} {a : DE} (ha : ET prog w G n X e a) : ETf prog w G n X (.BinOp (.List [.Constant (.int c) ck cp] lp) .Mult e pos) (fRep (.int c) a) := by
  intro A env P o loc s Q E v hA O hd h
  simp only [fRep] at hd
  split at hd
  case h_2 => cases hd
  rename_i k hk
  split at hd <;> cases hd
  rename_i hle
  refine wpAny_BinOp (wpAny_List ?_)
  refine wpAny_items_cons (wpAny_Constant_int ?_) rfl
  refine wpAny_items_nil ⟨by show 1 ≤ sizeLine; decide, ?_⟩
  refine ha A env P o loc _ _ _ _ hA (O.keeps (Kp.push _ _)) hk fun h2 t2 y' k2 r2 => ?_
  obtain ⟨t, rfl⟩ := r2
  have ga := k2 _ _ (Heap.get?_push_size s.heap (o := listObj [.int c s.toks] 0) rfl)
  refine wpAny_binaryOp_repeat_ref (T := "list") (U := "int") (by decide) ⟨_, ga, rfl⟩ (fun s' => typeIs_int s' k t) noFill_list_mul F.fills_int_mul F.slot_int_rmul repeat_list F.slot_int_index.lookup
    (call_meets F.slot_int_rmul (typeIs_int _ k t) F.entry_int_rmul (F.args_int_rmul_2 _ _) (int___rmul___int_list k t s.heap.objs.size [.int c s.toks].toArray 0)
      ⟨ga, rfl, ⟨_, ga, rfl⟩, call_meets F.slot_list_mul ⟨_, ga, rfl⟩ F.entry_list_mul (F.args_list_mul_2 _ _)
        (AutoListH.list___mul___list_int_3 s.heap.objs.size [.int c s.toks].toArray 0 k t (by simp [Builtin.List.listFitsIndex]; omega) (by simp; omega) (by simp [Builtin.List.listTooLong, sizeLine]; omega))
        ⟨ga, ?_⟩⟩)
  have e := fold_rep (.int c s.toks) k.toNat []
  simp only [List.nil_append] at e
  simp only [List.isEmpty_toArray, List.isEmpty_cons, Bool.false_eq_true, if_false]
  rw [e]
  exact h h2 _ _ 0 ((Kp.push _ _).trans k2) (VRs.replicate (by unfold VR; exact ⟨_, rfl⟩) _)
noncomputable def sMk (i : Nat) (a : Loc → Option (List V)) : DS := fun l => match l 100 with
  | none => (a l).bind fun xs => some (.next (upd (upd l 100 .none) i (.own xs)))
  | some _ => none
theorem E1_mk {x : PySem.Str} {xp pos : Pos} {e : Expr} {a : Loc → Option (List V)} (i : Nat) (k : NameKind) (hn : vn i = x) (hk : X.lookup x = some k) (hl : (k == .local || k == .cell) = true) (ha : ETf prog w G n X e a)
    (hs : ∀ env : Env, env.scope.kind = .function → (∀ y, env.kindOf y = X.lookup y) → swapsWith e (some (.Name x xp)) pos.line env = pure false) : E1 prog w G n X (.Assign [.Name x xp] e pos) (sMk i a) := by
  intro A env P₀ h₀ o loc m s Q E fl hA F hd h
  unfold sMk at hd
  split at hd
  case h_2 => cases hd
  rename_i hflag
  have ho := F.flag hflag
  subst ho
  simp only [Option.bind_eq_some_iff, Option.some.injEq] at hd
  obtain ⟨xs, hxs, rfl⟩ := hd
  subst hn
  have hi := vn_lt F hk
  have h48 : vtab.length = 48 := rfl
  refine wpAny_Assign_Name (ha A env _ none loc s _ _ xs hA F.ok hxs fun h1 t1 vs j k1 r1 => ?_) (hs env F.kind F.names)
  have F1 := F.keeps k1
  have hnew : h1.get? h1.objs.size = none := fresh_size h1
  have hold : ∀ a vs n, PO P₀ none a → h1.get? a = some (listObj vs n) → PO P₀ (some h1.objs.size) a ∧ (h1.push (listObj vs n)).get? a = some (listObj vs n) := fun a vs n p g => ⟨⟨p.1, fun q => by cases q; rw [hnew] at g; cases g⟩, Heap.get?_push_of_some _ g⟩
  have hVR : ∀ {v : V} {v' : Value}, VR h1 (PO P₀ none) none v v' → VR (h1.push (listObj vs j)) (PO P₀ (some h1.objs.size)) (some h1.objs.size) v v' := fun r => VR.mono (fun a vs n p g => ⟨(hold a vs n p g).1, Heap.get?_push_of_some _ g⟩) (fun a vs n p g => by cases p) _ r
  have noOwn : ∀ b ys, lc X b = true → loc b ≠ some (.own ys) := fun b ys hb e => by
    unfold lc at hb
    split at hb
    · rename_i hb'
      obtain ⟨v', _, r⟩ := F.varL b _ e hb'
      unfold VR at r
      obtain ⟨_, _, _, _, q, _⟩ := r
      cases q
    · rename_i hb'
      obtain ⟨c, v', _, _, r⟩ := F.varC b _ e hb'
      unfold VR at r
      obtain ⟨_, _, _, _, q, _⟩ := r
      cases q
    · cases hb
  have F2 : Fo G X env P₀ h₀ (some h1.objs.size) (upd loc 100 .none) m (h1.push (listObj vs j)) := by
    refine { F1.keeps (Kp.push h1 (listObj vs j)) with varL := ?_, varC := ?_, own := ?_, one := ?_, flag := ?_ }
    · intro b v e hb
      have hb' := vn_lt F hb
      rw [upd_ne _ _ (by omega)] at e
      obtain ⟨v', a, r⟩ := F1.varL b v e hb
      exact ⟨v', a, hVR r⟩
    · intro b v e hb
      have hb' := vn_lt F hb
      rw [upd_ne _ _ (by omega)] at e
      obtain ⟨c, v', a, d, r⟩ := F1.varC b v e hb
      exact ⟨c, v', a, d.keeps (Kp.push _ _), hVR r⟩
    · intro a e
      cases e
      exact ⟨none_of_kp F1.keep hnew, vs, j, Heap.get?_push_size _ rfl⟩
    · intro a b xs ys la lb ea eb
      refine absurd ea ?_
      by_cases h100 : a = 100
      · subst h100; rw [upd_self]; intro q; cases q
      · rw [upd_ne _ _ h100]; exact noOwn a xs la
    · intro e; rw [upd_self] at e; cases e
  have rv : VR (h1.push (listObj vs j)) (PO P₀ (some h1.objs.size)) (some h1.objs.size) (.own xs) (.ref h1.objs.size) := by
    unfold VR
    exact ⟨_, vs, j, rfl, rfl, Heap.get?_push_size _ rfl, VRs.mono (fun a vs n p g => ⟨(hold a vs n p g).1, Heap.get?_push_of_some _ g⟩) xs r1⟩
  refine F2.storeO (s := { s with heap := h1.push (listObj vs j), toks := t1 }) hk hl rv (fun a b us ws la lb ea eb => ?_) fun h3 m3 t3 F3 s3 => ?_
  · have key : ∀ c zs, lc X c = true → upd (upd loc 100 V.none) i (.own xs) c = some (.own zs) → c = i := by
      intro c zs lc' ec
      by_cases hc : c = i
      · exact hc
      · rw [upd_ne _ _ hc] at ec
        by_cases h100 : c = 100
        · subst h100; rw [upd_self] at ec; cases ec
        · rw [upd_ne _ _ h100] at ec; exact absurd ec (noOwn c zs lc')
    rw [key a us la ea, key b ws lb eb]
  · have s1 : St env none (some h1.objs.size) s.heap (h1.push (listObj vs j)) := ⟨fun b ob _ _ _ e => Heap.get?_push_of_some _ (k1 b ob e), fun a e => none_of_kp (k1.trans (Kp.push _ _)) e, Or.inr ⟨rfl, fun a e => by cases e; exact none_of_kp k1 hnew⟩⟩
    exact h h3 m3 t3 _ F3 (s1.trans s3)
end
end Mine
end
section
open PySem PySem.W PyProof.Rows
namespace Mine
section
variable {prog : Program} {w : World} {G : Gl} {n : Nat} {X : Names}
theorem Fo.mut {env : Env} {P₀ : Addr → Prop} {h₀ h h' : Heap} {loc : Loc} {m : PySem.Str → Option Value} {a : Addr} {i : Nat} {xs xs' : List V} {vs' : List Value} {j' : Nat} (F : Fo G X env P₀ h₀ (some a) loc m h) (hi : loc i = some (.own xs)) (hli : lc X i = true)
    (g' : h'.get? a = some (listObj vs' j')) (rs : VRs h' (PO P₀ (some a)) xs' vs') (hk : ∀ c ob, c ≠ a → h.get? c = some ob → h'.get? c = some ob) :
    Fo G X env P₀ h₀ (some a) (upd loc i (.own xs')) m h' := by
  obtain ⟨a0, vs, k, g⟩ := F.own a rfl
  have hVR : ∀ {v : V} {v' : Value}, v.free = true → VR h (PO P₀ (some a)) (some a) v v' → VR h' (PO P₀ (some a)) (some a) v v' := fun hf r => (VR.mono (fun b vs n p g => ⟨p, hk b _ (fun q => p.2 (by rw [q])) g⟩) (fun b vs n p g => by cases p) _ (r.unown (o' := none) hf) : VR h' (PO P₀ (some a)) none _ _).unown hf
  have hothers : ∀ b v, lc X b = true → b ≠ i → loc b = some v → v.free = true := fun b v hb hbi e => by
    cases v with
    | own ys => exact absurd (F.one b i ys xs hb hli e hi) hbi
    | _ => rfl
  have hown : ∀ v', VR h (PO P₀ (some a)) (some a) (.own xs) v' → VR h' (PO P₀ (some a)) (some a) (.own xs') v' := fun v' r => by
    unfold VR at r ⊢
    obtain ⟨b, _, _, rfl, q, _, _⟩ := r
    cases q
    exact ⟨_, vs', j', rfl, rfl, g', rs⟩
  have cellNe : ∀ x c, env.cells.lookup x = some c → c ≠ a := fun x c e q => by
    obtain ⟨_, _, cv, hcv⟩ := F.cfresh x c e
    obtain ⟨ob, g', hn⟩ := cell_notList hcv
    rw [q, g] at g'; exact hn _ _ (Option.some.inj g').symm
  have locNe : env.locals ≠ a := fun q => by
    obtain ⟨ob, g', hn⟩ := ns_notList F.ns
    rw [q, g] at g'; exact hn _ _ (Option.some.inj g').symm
  have hcell : ∀ x c cv, env.cells.lookup x = some c → h.IsCell c cv → h'.IsCell c cv := fun x c cv e ⟨ob, g, d⟩ => ⟨ob, hk c ob (cellNe x c e) g, d⟩
  refine { F with keep := ?_, ns := ?_, cfresh := ?_, varL := ?_, varC := ?_, own := ?_, one := ?_, flag := ?_ }
  · exact fun b ob e => hk b ob (fun q => by rw [q, a0] at e; cases e) (F.keep b ob e)
  · exact F.ns.at' fun ob e => hk _ ob locNe e
  · exact fun x c e => let ⟨a, b, cv, d⟩ := F.cfresh x c e; ⟨a, b, cv, hcell x c cv e d⟩
  · intro b v e hb
    by_cases hbi : b = i
    · subst hbi
      rw [upd_self] at e; cases e
      obtain ⟨v', q, r⟩ := F.varL b _ hi hb
      exact ⟨v', q, hown v' r⟩
    · rw [upd_ne _ _ hbi] at e
      obtain ⟨v', q, r⟩ := F.varL b v e hb
      exact ⟨v', q, hVR (hothers b v (by unfold lc; rw [hb]) hbi e) r⟩
  · intro b v e hb
    by_cases hbi : b = i
    · subst hbi
      rw [upd_self] at e; cases e
      obtain ⟨c, v', q, d, r⟩ := F.varC b _ hi hb
      exact ⟨c, v', q, hcell _ c _ q d, hown v' r⟩
    · rw [upd_ne _ _ hbi] at e
      obtain ⟨c, v', q, d, r⟩ := F.varC b v e hb
      exact ⟨c, v', q, hcell _ c _ q d, hVR (hothers b v (by unfold lc; rw [hb]) hbi e) r⟩
  · intro b e
    cases e
    exact ⟨a0, vs', j', g'⟩
  · intro b c ys zs lb lc' eb ec
    by_cases hbi : b = i <;> by_cases hci : c = i
    · rw [hbi, hci]
    · rw [upd_ne _ _ hci] at ec
      exact absurd (F.one c i zs xs lc' hli ec hi) hci
    · rw [upd_ne _ _ hbi] at eb
      exact absurd (F.one b i ys xs lb hli eb hi) hbi
    · rw [upd_ne _ _ hbi] at eb
      rw [upd_ne _ _ hci] at ec
      exact F.one b c ys zs lb lc' eb ec
  · intro e
    have h100 : (100 : Nat) ≠ i := by
      rintro rfl
      unfold lc vn at hli
      have : vtab[100]? = none := by decide
      rw [this] at hli
      split at hli
      · rename_i q; rw [F.noq] at q; cases q
      · rename_i q; rw [F.noq] at q; cases q
      · cases hli
    rw [upd_ne _ _ h100] at e
    exact F.flag e
noncomputable def AppC (prog : Program) (w : World) (G : Gl) (n : Nat) (f : Value) : Prop :=
  ∀ (A : Around) (s : Shared) (a b : Addr) (vs ws : List Value) (j k : Nat) (Q : Value → Shared → Prop) (E : Value → Shared → Prop), AOk n A → Base G s.heap → s.heap.get? a = some (listObj vs j) → s.heap.get? b = some (listObj ws k) → vs.length + ws.length ≤ 8192 →
    (∀ (h' : Heap) (tk i : Nat), h'.get? a = some (listObj (vs ++ ws) i) → (∀ c ob, c ≠ a → s.heap.get? c = some ob → h'.get? c = some ob) → Q (.ref a) { s with heap := h', toks := tk }) → wpAny (model prog w) A (call f [.ref a, .ref b]) Q E s
noncomputable def sApp (i : Nat) (a : DE) : DS := fun l => match l i with
  | some (.own xs) => (a l).bind fun v => if v.free && decide (xs.length ≤ 4096) then some (.next (upd (upd l i (.own (xs ++ [v]))) i (.own (xs ++ [v])))) else none
  | _ => none
theorem Fo.owner {env : Env} {P₀ : Addr → Prop} {h₀ h : Heap} {o : Option Addr} {loc : Loc} {m : PySem.Str → Option Value} {i : Nat} {xs : List V} (F : Fo G X env P₀ h₀ o loc m h) (hi : loc i = some (.own xs)) (hli : lc X i = true) :
    ∃ a vs j, o = some a ∧ h.get? a = some (listObj vs j) ∧ VRs h (PO P₀ o) xs vs := by
  unfold lc at hli
  split at hli
  · rename_i q
    obtain ⟨v', _, r⟩ := F.varL i _ hi q
    unfold VR at r
    obtain ⟨a, vs, j, _, b, c, d⟩ := r
    exact ⟨a, vs, j, b, c, d⟩
  · rename_i q
    obtain ⟨_, v', _, _, r⟩ := F.varC i _ hi q
    unfold VR at r
    obtain ⟨a, vs, j, _, b, c, d⟩ := r
    exact ⟨a, vs, j, b, c, d⟩
  · cases hli
theorem lc_of {i : Nat} {k : NameKind} (hk : X.lookup (vn i) = some k) (hl : (k == .local || k == .cell) = true) : lc X i = true := by
  unfold lc
  rw [hk]
  cases k <;> first | rfl | cases hl
theorem lend_kind {k : NameKind} (hl : (k == .local || k == .cell) = true) : (k == .local || k == .cell || k == .free) = true := by rw [hl]; rfl
theorem E1_app {x f : PySem.Str} {xp xp2 fp lp cp pos : Pos} {e : Expr} {a : DE} {fv : Value} (i : Nat) (k : NameKind) (hn : vn i = x) (hk : X.lookup x = some k) (hl : (k == .local || k == .cell) = true) (ha : ET prog w G n X e a)
    (hf : AppC prog w G n fv) (hok : CallOk G fv) (hnm : NameOk G f fv) (hfk : X.lookup f = some .globalImplicit) (hfd : (f == ("__debug__" : PySem.Str)) = false) (he : ∀ env, starEach [e] env = [(false, eval e env)]) :
    E1 prog w G n X (.Assign [.Name x xp] (.Call (.Name f fp) [.Name x xp2, .List [e] lp] [] cp) pos) (sApp i a) := by
  intro A env P₀ h₀ o loc m s Q E fl hA F hd h
  unfold sApp at hd
  split at hd
  case h_2 => cases hd
  rename_i xs hi
  simp only [Option.bind_eq_some_iff] at hd
  obtain ⟨v, hv, hd⟩ := hd
  split at hd
  case isFalse => cases hd
  rename_i hc
  simp only [Bool.and_eq_true, decide_eq_true_eq] at hc
  cases hd
  subst hn
  have hli := lc_of hk hl
  obtain ⟨a, vs, j, rfl, ga, ra⟩ := F.owner hi hli
  have hrefl : ∀ v', VR s.heap (PO P₀ (some a)) (some a) (.own xs) v' → v' = .ref a := fun v' r => by
    unfold VR at r
    obtain ⟨b, _, _, rfl, q, _⟩ := r
    cases q; rfl
  refine wpAny_Assign_Name (wpAny_Call_Name_kw (name_ok hnm F.ok hfk hfd ?_))
  refine callWith_ok hok rfl rfl ?_
  refine wpAny_items_cons ?_ rfl
  obtain ⟨v0, h0, r0⟩ := F.ok.vars i _ hi k hk (lend_kind hl)
  have := hrefl v0 r0
  subst this
  refine h0.load F.kind ?_ (vn_ok i).1 (vn_ok i).2
  refine wpAny_items_cons (wpAny_List ?_) rfl
  rw [he env]
  refine Calls.spliced_cons ?_
  refine ha A env _ (some a) loc s _ _ v hA F.ok hv fun h1 t1 v' k1 r1 => ?_
  refine Calls.spliced_nil ⟨by show 1 ≤ sizeLine; decide, Calls.spliced_nil ?_⟩
  have k2 := k1.trans (Kp.push h1 (listObj [v'] 0))
  have F2 := F.keeps k2
  refine ⟨F2.ok.base, ?_⟩
  have hlen := ra.length
  refine hf A _ a h1.objs.size vs [v'] j 0 _ _ hA F2.ok.base (k2 _ _ ga) (Heap.get?_push_size _ rfl) (by simp only [List.length_cons, List.length_nil]; omega) fun h3 t3 i' g3 hk3 => ?_
  have rel : ∀ {ys : List V} {ws : List Value}, VRs h1 (PO P₀ (some a)) ys ws → VRs h3 (PO P₀ (some a)) ys ws := fun r => VRs.mono (fun b vs n p g => ⟨p, hk3 b _ (fun q => p.2 (by rw [q])) (Heap.get?_push_of_some _ g)⟩) _ r
  have F3 := F2.mut hi hli g3 (xs' := xs ++ [v]) (VRs.append (rel (ra.keeps k1)) (rel (VRs.single (r1.unown hc.1)))) hk3
  have rv : VR h3 (PO P₀ (some a)) (some a) (.own (xs ++ [v])) (.ref a) := by
    unfold VR
    exact ⟨a, _, i', rfl, rfl, g3, VRs.append (rel (ra.keeps k1)) (rel (VRs.single (r1.unown hc.1)))⟩
  have s2 : St env (some a) (some a) s.heap h3 := ⟨fun b ob _ _ h3' e => hk3 b ob (fun q => h3' (by rw [q])) (k2 b ob e), fun b e => by
    cases q : s.heap.get? b with
    | none => rfl
    | some ob =>
      by_cases hb : b = a
      · subst hb; rw [g3] at e; cases e
      · rw [hk3 b ob hb (k2 b ob q)] at e; exact absurd e (by intro q'; cases q'), Or.inl rfl⟩
  refine F3.storeO (s := { s with heap := h3, toks := t3 }) hk hl rv (fun b c us ws lb lc' eb ec => ?_) fun h4 m4 t4 F4 s4 => ?_
  · refine F3.one b c us ws lb lc' ?_ ?_
    · by_cases hb : b = i
      · subst hb; rw [upd_self] at eb ⊢; exact eb
      · rw [upd_ne _ _ hb] at eb ⊢; rw [upd_ne _ _ hb] at eb; exact eb
    · by_cases hb : c = i
      · subst hb; rw [upd_self] at ec ⊢; exact ec
      · rw [upd_ne _ _ hb] at ec ⊢; rw [upd_ne _ _ hb] at ec; exact ec
  · exact h h4 m4 t4 _ F4 (s2.trans s4)
end
end Mine
end
section
open PySem PySem.W PyProof.Rows
namespace Mine
section
variable {prog : Program} {w : World} {G : Gl} {n : Nat} {X : Names}
theorem setItem_at {A : Around} {E : Value → Shared → Prop} {s : Shared} {a : Addr} {vs : List Value} {j : Nat} {k : Int} {t : Tok} {v : Value} {Q : Unit → Shared → Prop} (ga : s.heap.get? a = some (listObj vs j)) (h0 : 0 ≤ k) (hk : k < vs.length) (hle : vs.length ≤ 4096)
    (h : ∀ h' i, h'.get? a = some (listObj (vs.set k.toNat v) i) → Heap.SameBut a s.heap h' → Q () { s with heap := h' }) : wpAny (model prog w) A (setItem (.ref a) (.int k t) v) Q E s := by
  have hl := isList_of ga
  unfold setItem
  try with_reducible refine wpAny_holding ?_
  first | refine wpAny_bind (wpAny_pure ?_) | skip
  refine wpAny_bind (wpAny_sequenceKey hl.typeIs (by decide) ?_)
  refine wpAny_bind (wpAny_callSpecial?_slot (name := PySem.Str.ofString "__setitem__") hl.typeIs slot_list_setitem (wpAny_call_entry slot_list_setitem hl.typeIs entry_list_setitem ?_ (args_list_setitem _ _ _)))
  show wpAny _ _ (Builtin.List.listSubscript? (.int k t) >>= _) _ _ s
  refine wpAny_bind (wpAny_listSubscript_int (fitsIndex_of h0 (by omega)) ?_)
  obtain ⟨i, rfl⟩ := Int.eq_ofNat_of_zero_le h0
  have hi : i < vs.length := by omega
  have hx : vs.toArray[i]? = some vs[i] := by simp [hi]
  show wpAny _ _ ((seqItemAt a i >>= fun r => pure (r.map (i, ·))) >>= _) _ _ s
  refine wpAny_bind (wpAny_bind (wpAny_seqItemAt ga rfl (wpAny_pure ?_)))
  rw [hx]
  show wpAny _ _ (setSeqItemAt a i v >>= _) _ _ s
  have e : Obj.mapSeq (fun x => x.setIfInBounds i v) (listObj vs j) = listObj (vs.set i v) j := by
    unfold listObj Obj.mapSeq
    simp
  have g' : (s.heap.update a (Obj.mapSeq (·.setIfInBounds i v))).get? a = some (listObj (vs.set i v) j) := by
    rw [← e]
    exact Heap.get?_update_self _ ga (by rw [e]; rfl)
  refine wpAny_bind (wpAny_setSeqItemAt ga rfl ?_)
  exact wpAny_pure ⟨.none, rfl, wpAny_pure (h _ j g' (Heap.SameBut.update ..))⟩
noncomputable def sPut (i : Nat) (idx val : DE) : DS := fun l => match l i with
  | some (.own xs) => (val l).bind fun v => match idx l with
    | some (.int k) => if v.free && decide (0 ≤ k) && decide (k < xs.length) && decide (xs.length ≤ 4096) then some (.next (upd l i (.own (xs.set k.toNat v)))) else none
    | _ => none
  | _ => none
theorem E1_put {x : PySem.Str} {xp p' pos : Pos} {ie e : Expr} {idx val : DE} (i : Nat) (k : NameKind) (hn : vn i = x) (hk : X.lookup x = some k) (hl : (k == .local || k == .cell) = true) (hi : ET prog w G n X ie idx) (hv : ET prog w G n X e val)
    (hs : ∀ env : Env, swapsWith e (some (.Subscript (.Name x xp) ie p')) pos.line env = pure false) : E1 prog w G n X (.Assign [.Subscript (.Name x xp) ie p'] e pos) (sPut i idx val) := by
  intro A env P₀ h₀ o loc m s Q E fl hA F hd h
  unfold sPut at hd
  split at hd
  case h_2 => cases hd
  rename_i xs hxs
  simp only [Option.bind_eq_some_iff] at hd
  obtain ⟨v, hv', hd⟩ := hd
  split at hd
  case h_2 => cases hd
  rename_i kk hkk
  split at hd
  case isFalse => cases hd
  rename_i hc
  simp only [Bool.and_eq_true, decide_eq_true_eq] at hc
  obtain ⟨⟨⟨hfree, h0⟩, hlt⟩, hle⟩ := hc
  cases hd
  subst hn
  have hli := lc_of hk hl
  obtain ⟨a, vs, j, rfl, ga, ra⟩ := F.owner hxs hli
  refine wpAny_Assign_Subscript (hv A env _ (some a) loc s _ _ v hA F.ok hv' fun h1 t1 v' k1 r1 => ?_) (hs env)
  have F1 := F.keeps k1
  obtain ⟨v0, h0', r0⟩ := F1.ok.vars i _ hxs k hk (lend_kind hl)
  have : v0 = .ref a := by
    unfold VR at r0
    obtain ⟨b, _, _, rfl, q, _⟩ := r0
    cases q; rfl
  subst this
  refine h0'.load (s := { s with heap := h1, toks := t1 }) F.kind ?_ (vn_ok i).1 (vn_ok i).2
  refine hi A env _ (some a) loc _ _ _ _ hA F1.ok hkk fun h2 t2 i' k2 r2 => ?_
  obtain ⟨t, rfl⟩ := r2
  have F2 := F1.keeps k2
  have hlen := ra.length
  refine setItem_at (s := { s with heap := h2, toks := t2 }) (k2 _ _ (k1 _ _ ga)) h0 (by omega) (by omega) fun h3 i3 g3 s3 => ?_
  have rel : ∀ {ys : List V} {ws : List Value}, VRs h2 (PO P₀ (some a)) ys ws → VRs h3 (PO P₀ (some a)) ys ws := fun r => VRs.mono (fun b vs n p g => ⟨p, s3.extBut b _ (fun q => p.2 (by rw [q])) g⟩) _ r
  have r1' : VR h3 (PO P₀ (some a)) none v v' := VR.mono (fun b vs n p g => ⟨p, s3.extBut b _ (fun q => p.2 (by rw [q])) g⟩) (fun a vs n p g => by cases p) _ ((r1.keeps k2).unown (o' := none) hfree)
  have F3 := F2.mut hxs hli g3 (xs' := xs.set kk.toNat v) (VRs.set (rel ((ra.keeps k1).keeps k2)) r1') (fun c ob hc e => s3.extBut c ob hc e)
  exact h h3 m t2 _ F3 ⟨fun b ob _ _ h3' e => s3.extBut b ob (fun q => h3' (by rw [q])) (k2 b ob (k1 b ob e)), fun b e => none_of_kp (k1.trans k2) (sameBut_dom s3 g3 b e), Or.inl rfl⟩
end
end Mine
end
section
open PySem PySem.W PyProof.Rows
namespace Mine
theorem cells_other {y : PySem.Str} : ∀ (names : List (PySem.Str × NameKind)) (n : Nat) (acc : List (PySem.Str × Addr)), (∀ p ∈ names, p.2 = .cell → p.1 ≠ y) → (cellsFrom n names acc).lookup y = acc.lookup y
  | [], n, acc, _ => rfl
  | (name, kind) :: r, n, acc, h => by
    have hr : ∀ p ∈ r, p.2 = .cell → p.1 ≠ y := fun p hp => h p (List.mem_cons_of_mem _ hp)
    unfold cellsFrom
    split
    · rename_i hk
      rw [cells_other r _ _ hr, List.lookup_cons]
      have : (y == name) = false := beq_eq_false_iff_ne.mpr fun e => h (name, kind) List.mem_cons_self (by simpa using hk) e.symm
      rw [this]
    · exact cells_other r _ _ hr
theorem cells_kept {y : PySem.Str} {lo : Nat} : ∀ (names : List (PySem.Str × NameKind)) (h : Heap) (acc : List (PySem.Str × Addr)), lo ≤ h.objs.size → (∃ c, acc.lookup y = some c ∧ lo ≤ c ∧ h.IsCell c none) →
    ∃ c, (cellsFrom h.objs.size names acc).lookup y = some c ∧ lo ≤ c ∧ (pushCells h names).IsCell c none
  | [], h, acc, _, x => x
  | (name, kind) :: r, h, acc, hlo, x => by
    unfold cellsFrom pushCells
    split
    · have := cells_kept (y := y) (lo := lo) r (h.push { cls := .type "cell", data := .cell none }) ((name, h.objs.size) :: acc) (by rw [Heap.size_push]; omega) (by
        rw [List.lookup_cons]
        cases hy : y == name with
        | true => exact ⟨_, rfl, hlo, _, Heap.get?_push_size _ rfl, rfl⟩
        | false =>
          obtain ⟨c, a, b, d⟩ := x
          exact ⟨c, a, b, d.keeps (Kp.push _ _)⟩)
      rwa [Heap.size_push] at this
    · exact cells_kept r h acc hlo x
theorem cells_own {y : PySem.Str} {lo : Nat} : ∀ (names : List (PySem.Str × NameKind)) (h : Heap) (acc : List (PySem.Str × Addr)), lo ≤ h.objs.size → (y, NameKind.cell) ∈ names →
    ∃ c, (cellsFrom h.objs.size names acc).lookup y = some c ∧ lo ≤ c ∧ (pushCells h names).IsCell c none
  | [], h, acc, _, x => by cases x
  | (name, kind) :: r, h, acc, hlo, x => by
    unfold cellsFrom pushCells
    rcases List.mem_cons.mp x with e | x
    · cases e
      simp only [beq_self_eq_true, if_true]
      have := cells_kept (y := y) (lo := lo) r (h.push { cls := .type "cell", data := .cell none }) ((y, h.objs.size) :: acc) (by rw [Heap.size_push]; omega)
        ⟨h.objs.size, by simp, hlo, _, Heap.get?_push_size _ rfl, rfl⟩
      rwa [Heap.size_push] at this
    · split
      · have := cells_own (y := y) (lo := lo) r (h.push { cls := .type "cell", data := .cell none }) ((name, h.objs.size) :: acc) (by rw [Heap.size_push]; omega) x
        rwa [Heap.size_push] at this
      · exact cells_own r h acc hlo x
noncomputable def closeL (env : Env) : List (PySem.Str × NameKind) → List (PySem.Str × Addr) → List (PySem.Str × Addr)
  | [], acc => acc
  | (x, k) :: r, acc => if k == .free then closeL env r ((x, (env.cells.lookup x).getD 0) :: acc) else closeL env r acc
theorem close_loop (env : Env) : ∀ (names : List (PySem.Str × NameKind)) (acc : List (PySem.Str × Addr)), (∀ p ∈ names, p.2 = .free → ∃ c, env.cells.lookup p.1 = some c) →
    (forIn names acc fun p r => (match p with | (name, kind) => if (kind == .free) = true then (do let c ← cellOf env name; pure (ForInStep.yield ((name, c) :: r))) else pure (ForInStep.yield r) : Sem (ForInStep (List (PySem.Str × Addr))))) = pure (closeL env names acc)
  | [], acc, _ => by rw [List.forIn_nil]; rfl
  | (x, k) :: r, acc, h => by
    have hr : ∀ p ∈ r, p.2 = .free → ∃ c, env.cells.lookup p.1 = some c := fun p hp => h p (List.mem_cons_of_mem _ hp)
    rw [List.forIn_cons]
    unfold closeL
    by_cases hk : (k == .free) = true
    · obtain ⟨c, hc⟩ := h (x, k) List.mem_cons_self (by simpa using hk)
      have hc : env.cells.lookup x = some c := hc
      simp only [hk, if_true, cellOf, hc, pure_bind, Option.getD_some]
      exact close_loop env r _ hr
    · simp only [hk, if_false, pure_bind]
      exact close_loop env r _ hr
theorem close_of {env : Env} {scope : Scope} (h : ∀ p ∈ scope.names, p.2 = .free → ∃ c, env.cells.lookup p.1 = some c) : closureFor scope env = pure (closeL env scope.names []) := by
  unfold closureFor
  have := close_loop env scope.names [] h
  simp only [bind_pure_comp, map_pure] at this ⊢
  rw [this, pure_bind]
theorem close_lookup {env : Env} {y : PySem.Str} : ∀ (names : List (PySem.Str × NameKind)) (acc : List (PySem.Str × Addr)), (y, NameKind.free) ∈ names → (closeL env names acc).lookup y = some ((env.cells.lookup y).getD 0) := by
  have kept : ∀ (names : List (PySem.Str × NameKind)) (acc : List (PySem.Str × Addr)), acc.lookup y = some ((env.cells.lookup y).getD 0) → (closeL env names acc).lookup y = some ((env.cells.lookup y).getD 0) := by
    intro names
    induction names with
    | nil => exact fun acc h => h
    | cons p r ih =>
      obtain ⟨x, k⟩ := p
      intro acc h
      unfold closeL
      split
      · refine ih _ ?_
        rw [List.lookup_cons]
        cases hy : y == x with
        | true => rw [eq_of_beq hy]
        | false => exact h
      · exact ih _ h
  intro names
  induction names with
  | nil => intro acc h; cases h
  | cons p r ih =>
    obtain ⟨x, k⟩ := p
    intro acc h
    unfold closeL
    rcases List.mem_cons.mp h with e | h
    · cases e
      simp only [beq_self_eq_true, if_true]
      exact kept r _ (by simp)
    · split
      · exact ih _ h
      · exact ih _ h
theorem newEnv_comp {M : Model} {A : Around} {E : Value → Shared → Prop} {s : Shared} {scope : Scope} {globals : Addr} {cl : List (PySem.Str × Addr)} {qual : PySem.Str} {outer : Env} {Q : Env → Shared → Prop} (hk : scope.kind = .function)
    (h : ∀ h', Kp s.heap h' → h'.Ns s.heap.objs.size (fun _ => none) → (∀ y, (y, NameKind.cell) ∈ scope.names → ∃ c, (cellsFrom (s.heap.objs.size + 1) scope.names cl).lookup y = some c ∧ s.heap.objs.size + 1 ≤ c ∧ h'.IsCell c none) →
      Q (newEnv scope s.heap.objs.size globals (cellsFrom (s.heap.objs.size + 1) scope.names cl) qual none .none (some outer) builtinsNs) { s with heap := h' }) :
    wpAny M A (newFunctionEnv scope globals cl [] qual none .none (some outer)) Q E s := by
  simp only [newFunctionEnv, Option.isSome_some, if_true]
  refine wpAny_bind (wpAny_alloc ?_)
  refine wpAny_bind (wpAny_layCells _ (fun name kind cells => by cases hkc : kind == NameKind.cell <;> simp [hkc]) _ _ _ _ ?_)
  have hsz : (s.heap.push { cls := .type "dict", data := .dict #[] }).objs.size = s.heap.objs.size + 1 := Heap.size_push ..
  refine wpAny_bind ?_
  rw [List.forIn_nil]
  refine wpAny_pure (wpAny_pure ?_)
  have := h (pushCells (s.heap.push { cls := .type "dict", data := .dict #[] }) scope.names) ((Kp.push _ _).trans (pushCells_keeps _ _)) ((Heap.Ns.new s.heap (.type "dict")).keeps (pushCells_keeps _ _)) (fun y hy => by
    have := cells_own (y := y) (lo := s.heap.objs.size + 1) scope.names (s.heap.push { cls := .type "dict", data := .dict #[] }) cl (by rw [hsz]; exact Nat.le_refl _) hy
    rwa [hsz] at this)
  rw [show ({ s with heap := s.heap.push { cls := .type "dict", data := .dict #[] } } : Shared).heap.objs.size = s.heap.objs.size + 1 from hsz]
  exact this
end Mine
end
section
open PySem PySem.W PyProof.Rows
namespace Mine
section
variable {prog : Program} {w : World} {G : Gl} {n : Nat} {X : Names}
theorem VRs_imm {h h' : Heap} {P P' : Addr → Prop} : ∀ {xs : List V} {vs : List Value}, (∀ y ∈ xs, y.imm = true) → VRs h P xs vs → VRs h' P' xs vs
  | [], [], _, _ => VRs.nil
  | [], _ :: _, _, r => by unfold VRs at r; exact r.elim
  | _ :: _, [], _, r => by unfold VRs at r; exact r.elim
  | x :: xs, v :: vs, hi, r => by
    unfold VRs at r
    exact VRs.cons (VR.imm (hi x List.mem_cons_self) r.1) (VRs_imm (fun y hy => hi y (List.mem_cons_of_mem _ hy)) r.2)
noncomputable def TTs (prog : Program) (w : World) (G : Gl) (n : Nat) (X : Names) (ifs : List Expr) (t : Loc → Option Bool) : Prop :=
  ∀ (A : Around) (env : Env) (P : Addr → Prop) (o : Option Addr) (loc : Loc) (s : Shared) (Q : Bool → Shared → Prop) (E : Value → Shared → Prop) (b : Bool), AOk n A → Ok G X env P o loc s.heap → t loc = some b →
    (∀ (h' : Heap) (tk : Nat), Kp s.heap h' → Q b { s with heap := h', toks := tk }) →
    wpAny (model prog w) A (forIn ifs true fun c r => if r = true then do let ok ← isTrue c env (eval c env); pure (ForInStep.yield ok) else pure (ForInStep.yield r)) Q E s
noncomputable def tAll : Loc → Option Bool := fun _ => some true
theorem TTs_nil : TTs prog w G n X [] tAll := by
  intro A env P o loc s Q E b hA O hd h
  cases hd
  exact wpAny_tests_nil (h s.heap s.toks (Kp.refl _))
theorem TTs_one {c : Expr} {t : Loc → Option Bool} (hc : TT prog w G n X c t) : TTs prog w G n X [c] t := by
  intro A env P o loc s Q E b hA O hd h
  exact wpAny_tests_one (hc A env P o loc s Q E b hA O hd h)
noncomputable def compL (t : Loc → Option Bool) (de : DE) : List Loc → Option (List V)
  | [] => some []
  | l :: r => (t l).bind fun c => if c then (de l).bind fun y => if y.imm then (compL t de r).map fun z => y :: z else none else compL t de r
theorem compL_snoc (t : Loc → Option Bool) (de : DE) : ∀ (a b : List Loc) (ys : List V), compL t de (a ++ b) = some ys → ∃ y1 y2, compL t de a = some y1 ∧ compL t de b = some y2 ∧ ys = y1 ++ y2
  | [], b, ys, h => ⟨[], ys, rfl, h, rfl⟩
  | l :: a, b, ys, h => by
    simp only [List.cons_append, compL, Option.bind_eq_some_iff] at h ⊢
    obtain ⟨c, hc, h⟩ := h
    cases c
    · simp only [Bool.false_eq_true, if_false] at h
      obtain ⟨y1, y2, e1, e2, e3⟩ := compL_snoc t de a b ys h
      exact ⟨y1, y2, ⟨false, hc, by simpa using e1⟩, e2, e3⟩
    · simp only [if_true, Option.bind_eq_some_iff] at h
      obtain ⟨y, hy, h⟩ := h
      split at h
      case isFalse => cases h
      rename_i hi
      simp only [Option.map_eq_some_iff] at h
      obtain ⟨z, hz, rfl⟩ := h
      obtain ⟨y1, y2, e1, e2, e3⟩ := compL_snoc t de a b z hz
      refine ⟨y :: y1, y2, ⟨true, hc, ?_⟩, e2, by rw [e3]; rfl⟩
      simp only [if_true, Option.bind_eq_some_iff]
      exact ⟨y, hy, by rw [if_pos hi, e1]; rfl⟩
structure Ci (cenv : Env) (Xc : Names) (h₂ : Heap) (wr : List Addr) (D : Addr) (m : PySem.Str → Option Value) (h : Heap) : Prop where
  keep : ∀ b ob, b ∉ wr → h₂.get? b = some ob → h.get? b = some ob
  ns : h.Ns cenv.locals m
  lnew : h₂.get? cenv.locals = none
  dnew : h₂.get? D = none
  dl : D ≠ cenv.locals
  own : ∀ y, (y, NameKind.cell) ∈ Xc → ∃ c, cenv.cells.lookup y = some c ∧ h₂.get? c = none ∧ c ≠ cenv.locals ∧ c ≠ D ∧ ∃ cv, h.IsCell c cv
theorem compLoop_go {elt target iter : Expr} {ifs : List Expr} {scope : Scope} {pos : Pos} {it acc : Value} {env : Env} {A : Around} {R : Result → Shared → Prop} (I : Nat → Shared → Prop)
    (turn : ∀ n s, I n s → wpAny (model prog w) A (pyNext it) (fun r s₁ => match r with
      | none => R (.ok .next) s₁
      | some v => wpAny (model prog w) A (letOwnedTupleGo target it v) (fun _ s₁' => wpAny (model prog w) A (assign target env v) (fun _ s₂ =>
          wpAny (model prog w) A (forIn ifs true fun c r => if r = true then do let ok ← isTrue c env (eval c env); pure (ForInStep.yield ok) else pure (ForInStep.yield r)) (fun ok s₃ =>
            if ok = true then wpAny (model prog w) A (eval elt env) (fun x s₄ =>
              wpAny (model prog w) A (call (.builtin "list.append") [acc, x]) (fun _ s₅ => ∃ m, m < n ∧ I m s₅) (notedBy (model prog w) A env fun e s' => R (.error e) s') s₄) (notedBy (model prog w) A env fun e s' => R (.error e) s') s₃
            else ∃ m, m < n ∧ I m s₃) (notedBy (model prog w) A env fun e s' => R (.error e) s') s₂) (notedBy (model prog w) A env fun e s' => R (.error e) s') s₁') (notedBy (model prog w) A env fun e s' => R (.error e) s') s₁) (notedBy (model prog w) A env fun e s' => R (.error e) s') s)
    (n : Nat) (s : Shared) (h : I n s) : codeAny (model prog w) A (.compLoop (.ListComp elt [⟨target, iter, ifs, 0⟩] scope pos) 0 it acc env) R s := by
  refine codeAny_loop rfl I (fun n s hI => ?_) n h
  show wpAny _ A ((compTurn (.ListComp elt [⟨target, iter, ifs, 0⟩] scope pos) 0 it acc env).onRaise (fun x => do noteFrame x env; theTreesLotGoes x)) _ _ s
  refine wpAny_noted ?_
  rw [compTurn_list]
  refine wpAny_bind (wpAny_standAt (wpAny_bind (wpAny_mono (turn n s hI) (fun r s₁ h₁ => ?_) fun _ _ x => x)))
  cases r with
  | none => exact wpAny_pure h₁
  | some v =>
    refine wpAny_bind (wpAny_mono h₁ (fun _ s₁' h₁' => wpAny_bind (wpAny_mono h₁' (fun _ s₂ h₂ => wpAny_bind (wpAny_mono h₂ (fun ok s₃ h₃ => ?_) fun _ _ x => x)) fun _ _ x => x)) fun _ _ x => x)
    cases ok with
    | false => exact wpAny_pure ⟨rfl, h₃⟩
    | true => exact wpAny_bind (wpAny_bind (wpAny_mono h₃ (fun x s₄ h₄ => wpAny_bind (wpAny_mono h₄ (fun _ s₅ h₅ => wpAny_pure (wpAny_pure ⟨rfl, h₅⟩)) fun _ _ x => x)) fun _ _ x => x))
structure Wc (prog : Program) (w : World) (A : Around) (I : Addr) (fp wr : List Addr) (N : Nat) (S : Nat → Heap → Prop) (Mid : Nat → Value → Heap → Prop) : Prop where
  sub : ∀ b ∈ wr, b ∈ fp
  frame : ∀ i h h', S i h → (∀ b ∈ fp, ∀ o, h.get? b = some o → h'.get? b = some o) → S i h'
  item : ∀ i (s : Shared) (Q : Option Value → Shared → Prop) (E : Value → Shared → Prop), i < N → S i s.heap →
    (∀ v h' tk, Mid i v h' → (∀ b o, b ∉ wr → s.heap.get? b = some o → h'.get? b = some o) → Q (some v) { s with heap := h', toks := tk }) → wpAny (model prog w) A (pyNext (.ref I)) Q E s
  done : ∀ (s : Shared) (Q : Option Value → Shared → Prop) (E : Value → Shared → Prop), S N s.heap →
    (∀ h' tk, (∀ b o, b ∉ wr → s.heap.get? b = some o → h'.get? b = some o) → Q none { s with heap := h', toks := tk }) → wpAny (model prog w) A (pyNext (.ref I)) Q E s
  self : ∀ i (s : Shared) (Q : Value → Shared → Prop) (E : Value → Shared → Prop), S i s.heap → Q (.ref I) s → wpAny (model prog w) A (pyIter (.ref I)) Q E s
theorem comp_core {elt target iter : Expr} {ifs : List Expr} {scope : Scope} {pos : Pos} {env : Env} {cl : List (PySem.Str × Addr)} {A : Around} {s₂ : Shared} {E : Value → Shared → Prop} {P : Addr → Prop} {o : Option Addr} {I : Addr} {fp wr : List Addr}
    {Mid : Nat → Value → Heap → Prop} {S : Nat → Heap → Prop} {ls : List Loc} {t : Loc → Option Bool} {de : DE} {ys : List V} {RR : Value → Addr → Result → Shared → Prop} {Xc : Names}
    (hA : AOk n A) (W : Wc prog w A I fp wr ls.length S Mid) (st : S 0 s₂.heap) (fpOk : ∀ b ∈ fp, ∃ ob, s₂.heap.get? b = some ob) (small : ls.length ≤ 4096)
    (hkind : scope.kind = .function)
    (hbind : ∀ (cenv : Env) (D : Addr) (j : Nat) (l : Loc) (v : Value) (m : PySem.Str → Option Value) (s : Shared) (Q : Unit → Shared → Prop) (E : Value → Shared → Prop), ls[j]? = some l → (∃ L cs, cenv = { newEnv scope L env.globals cs env.qual none .none (some env) builtinsNs with scope := relabel scope env }) →
      (∀ y, y ∉ scope.names.filterMap (fun p => if p.2 = .cell then some p.1 else none) → cenv.cells.lookup y = cl.lookup y) → Mid j v s.heap → Ci cenv scope.names s₂.heap wr D m s.heap → (∃ ob, s.heap.get? D = some ob) →
      (∀ h' m' tk, Ok G Xc cenv P o l h' → Ci cenv scope.names s₂.heap wr D m' h' → S (j + 1) h' → (∀ ob, s.heap.get? D = some ob → h'.get? D = some ob) → Q () { s with heap := h', toks := tk }) →
      wpAny (model prog w) A (letOwnedTupleGo target (.ref I) v) (fun _ s' => wpAny (model prog w) A (assign target cenv v) Q E s') E s)
    (hT : TTs prog w G n Xc ifs t) (hE : ET prog w G n Xc elt de) (hd : compL t de ls = some ys)
    (hRR : ∀ D C h' tk vs k, (∀ b ob, b ∉ wr → s₂.heap.get? b = some ob → h'.get? b = some ob) → s₂.heap.get? D = none → s₂.heap.get? C = none → D ≠ C → (∃ m, h'.Ns C m) → h'.get? D = some (listObj vs k) → VRs h' P ys vs → RR (.ref D) C (.ok .next) { s₂ with heap := h', toks := tk }) :
    wpAny (model prog w) A (newList []) (fun acc s₃ => wpAny (model prog w) A (newFunctionEnv scope env.globals cl [] env.qual none .none (some env)) (fun cenv s₄ =>
      codeAny (model prog w) A (.compStart (.ListComp elt [⟨target, iter, ifs, 0⟩] scope pos) 0 (.ref I) acc { cenv with scope := relabel scope env }) (RR acc cenv.locals) s₄) E s₃) E s₂ := by
  refine wpAny_newObj_type (newEnv_comp hkind fun h4 k4 ns4 own4 => ?_)
  have hDnew : s₂.heap.get? s₂.heap.objs.size = none := fresh_size _
  have hsz : (s₂.heap.push (listObj [] 0)).objs.size = s₂.heap.objs.size + 1 := Heap.size_push ..
  have hnew : ∀ a, s₂.heap.objs.size ≤ a → s₂.heap.get? a = none := fun a ha => by
    cases e : s₂.heap.get? a with
    | none => rfl
    | some o' => exact absurd (Heap.lt_size e) (Nat.not_lt.mpr ha)
  have k2 : Kp s₂.heap h4 := (Kp.push _ (listObj [] 0)).trans k4
  have acc4 : h4.get? s₂.heap.objs.size = some (listObj [] 0) := k4 _ _ (Heap.get?_push_size _ rfl)
  -- the comprehension's env
  generalize hce : ({ newEnv scope (s₂.heap.push (listObj [] 0)).objs.size env.globals (cellsFrom ((s₂.heap.push (listObj [] 0)).objs.size + 1) scope.names cl) env.qual none .none (some env) builtinsNs with scope := relabel scope env } : Env) = cenv
  have hloc : cenv.locals = s₂.heap.objs.size + 1 := by rw [← hce]; exact hsz
  have hcells : cenv.cells = cellsFrom ((s₂.heap.push (listObj [] 0)).objs.size + 1) scope.names cl := by rw [← hce]; rfl
  have hcl : ∀ y, y ∉ scope.names.filterMap (fun p => if p.2 = .cell then some p.1 else none) → cenv.cells.lookup y = cl.lookup y := fun y hy => by
    rw [hcells]
    exact cells_other _ _ _ fun p hp hk he => hy (List.mem_filterMap.mpr ⟨p, hp, by rw [if_pos hk, he]⟩)
  have C4 : Ci cenv scope.names s₂.heap wr s₂.heap.objs.size (fun _ => none) h4 := by
    refine ⟨fun b ob _ e => k2 b ob e, ?_, ?_, hDnew, ?_, fun y hy => ?_⟩
    · rw [hloc, ← hsz]; exact ns4
    · rw [hloc]; exact hnew _ (Nat.le_succ _)
    · rw [hloc]; exact Nat.ne_of_lt (Nat.lt_succ_self _)
    · obtain ⟨c, e, hc, hcv⟩ := own4 y hy
      rw [hsz] at hc
      have hc : s₂.heap.objs.size + 1 + 1 ≤ c := hc
      exact ⟨c, by rw [hcells]; exact e, hnew c (Nat.le_trans (by omega) hc), by rw [hloc]; exact Nat.ne_of_gt (Nat.lt_of_lt_of_le (Nat.lt_succ_self _) hc), Nat.ne_of_gt (Nat.lt_of_lt_of_le (by omega) hc), none, hcv⟩
  have fpNew : ∀ b ∈ fp, b ≠ cenv.locals ∧ b ≠ s₂.heap.objs.size ∧ ∀ c, s₂.heap.get? c = none → b ≠ c := fun b hb => by
    obtain ⟨ob, e⟩ := fpOk b hb
    refine ⟨?_, ?_, fun c hc q => ?_⟩
    · rintro rfl; rw [C4.lnew] at e; cases e
    · rintro rfl; rw [hDnew] at e; cases e
    · rw [q, hc] at e; cases e
  have loop : codeAny (model prog w) A (.compLoop (.ListComp elt [⟨target, iter, ifs, 0⟩] scope pos) 0 (.ref I) (.ref s₂.heap.objs.size) cenv) (RR (.ref s₂.heap.objs.size) cenv.locals) { s₂ with heap := h4 } := by
    refine compLoop_go (fun k s' => ∃ (j : Nat) (h' : Heap) (tk : Nat) (m : PySem.Str → Option Value) (vs : List Value) (q : Nat) (ys1 : List V), k = ls.length - j ∧ j ≤ ls.length ∧ s' = { s₂ with heap := h', toks := tk } ∧ S j h' ∧
      Ci cenv scope.names s₂.heap wr s₂.heap.objs.size m h' ∧ h'.get? s₂.heap.objs.size = some (listObj vs q) ∧ VRs h' P ys1 vs ∧ (∀ y ∈ ys1, y.imm = true) ∧ ys1.length ≤ j ∧ (∃ ys2, compL t de (ls.drop j) = some ys2 ∧ ys = ys1 ++ ys2)) ?_ ls.length _ ?_
    · rintro k' s' ⟨j, h5, t5, m5, vs, q, ys1, rfl, hj, rfl, S5, C5, acc5, r5, imm5, len5, ys2, hys2, hys⟩
      by_cases hlt : j < ls.length
      · refine W.item j _ _ _ hlt S5 fun v h6 t6 hv k6 => ?_
        have hl : ls[j]? = some ls[j] := List.getElem?_eq_getElem hlt
        have wrNe : ∀ b ∈ wr, b ≠ cenv.locals ∧ b ≠ s₂.heap.objs.size ∧ ∀ c, s₂.heap.get? c = none → b ≠ c := fun b hb => fpNew b (W.sub b hb)
        have C6 : Ci cenv scope.names s₂.heap wr s₂.heap.objs.size m5 h6 := by
          refine ⟨fun b ob hb e => k6 b ob hb (C5.keep b ob hb e), C5.ns.at' fun ob e => k6 _ ob (fun q => (wrNe _ q).1 rfl) e, C5.lnew, C5.dnew, C5.dl, fun y hy => ?_⟩
          obtain ⟨c, e, e1, e2, e3, cv, ob, g, d⟩ := C5.own y hy
          exact ⟨c, e, e1, e2, e3, cv, ob, k6 c ob (fun q => (wrNe c q).2.2 c e1 rfl) g, d⟩
        have acc6 : h6.get? s₂.heap.objs.size = some (listObj vs q) := k6 _ _ (fun q => (wrNe _ q).2.1 rfl) acc5
        refine hbind cenv s₂.heap.objs.size j _ v m5 _ _ _ hl ⟨_, _, hce.symm⟩ hcl hv C6 ⟨_, acc6⟩ fun h7 m7 t7 O7 C7 S7 k7 => ?_
        have acc7 : h7.get? s₂.heap.objs.size = some (listObj vs q) := k7 _ acc6
        rw [List.drop_eq_getElem_cons hlt] at hys2
        simp only [compL, Option.bind_eq_some_iff] at hys2
        obtain ⟨c, hc, hys2⟩ := hys2
        refine hT A cenv P o _ _ _ _ c hA O7 hc fun h8 t8 k8 => ?_
        have C8 : ∀ {h : Heap}, Kp h7 h → Ci cenv scope.names s₂.heap wr s₂.heap.objs.size m7 h := fun {h} k => ⟨fun b ob hb e => k b ob (C7.keep b ob hb e), C7.ns.keeps k, C7.lnew, C7.dnew, C7.dl, fun y hy =>
          let ⟨c, e, e1, e2, e3, cv, d⟩ := C7.own y hy; ⟨c, e, e1, e2, e3, cv, d.keeps k⟩⟩
        cases c
        · simp only [Bool.false_eq_true, if_false] at hys2 ⊢
          exact ⟨ls.length - (j + 1), by omega, j + 1, h8, t8, m7, vs, q, ys1, rfl, hlt, rfl, W.frame _ _ _ S7 fun b _ ob e => k8 b ob e, C8 k8, k8 _ _ acc7,
            VRs_imm imm5 r5, imm5, by omega, ys2, hys2, hys⟩
        · simp only [if_true, Option.bind_eq_some_iff] at hys2 ⊢
          obtain ⟨y, hy, hys2⟩ := hys2
          split at hys2
          case isFalse => cases hys2
          rename_i hi
          simp only [Option.map_eq_some_iff] at hys2
          obtain ⟨z, hz, rfl⟩ := hys2
          refine hE A cenv P o _ _ _ _ y hA (O7.keeps k8) hy fun h9 t9 y' k9 r9 => ?_
          have k79 := k8.trans k9
          have lenv : vs.length = ys1.length := (VRs.length r5).symm
          refine wpAny_list_append_plain (s := { s₂ with heap := h9, toks := t9 }) (items := vs.toArray) ⟨q, k79 _ _ acc7⟩ (fun h10 ha10 s10 => ?_) (by simp only [List.size_toArray, lenv]; exact Nat.le_trans (Nat.le_trans len5 (Nat.le_of_lt (Nat.lt_of_lt_of_le hlt small))) (by decide))
          obtain ⟨q', ha10⟩ := ha10
          have C9 := C8 k79
          refine ⟨ls.length - (j + 1), by omega, j + 1, h10, t9, m7, vs ++ [y'], q', ys1 ++ [y], rfl, hlt, rfl, W.frame _ _ _ (W.frame _ _ _ S7 fun b _ ob e => k79 b ob e) fun b hb ob e => s10.extBut b ob (fpNew b hb).2.1 e, ?_, ?_, ?_, ?_, ?_, z, hz, ?_⟩
          · refine ⟨fun b ob hb e => s10.extBut b ob (fun q => by rw [q, hDnew] at e; cases e) (C9.keep b ob hb e), C9.ns.sameBut s10 (Ne.symm C9.dl), C9.lnew, C9.dnew, C9.dl, fun y hy => ?_⟩
            obtain ⟨c, e, e1, e2, e3, cv, d⟩ := C9.own y hy
            exact ⟨c, e, e1, e2, e3, cv, d.sameBut s10 e3⟩
          · rw [ha10]; simp
          · exact VRs.append (VRs_imm imm5 r5) (VRs.single (VR.imm hi r9))
          · intro u hu
            rcases List.mem_append.mp hu with hu | hu
            · exact imm5 u hu
            · rw [List.mem_singleton] at hu; subst hu; exact hi
          · simp only [List.length_append, List.length_cons, List.length_nil]; omega
          · rw [hys]; simp
      · have hj' : j = ls.length := by omega
        subst hj'
        refine W.done _ _ _ S5 fun h6 t6 k6 => ?_
        rw [List.drop_of_length_le (Nat.le_refl _)] at hys2
        cases hys2
        have wrNe : ∀ b ∈ wr, b ≠ cenv.locals ∧ b ≠ s₂.heap.objs.size := fun b hb => let x := fpNew b (W.sub b hb); ⟨x.1, x.2.1⟩
        refine hRR _ _ h6 t6 vs q (fun b ob hb e => k6 b ob hb (C5.keep b ob hb e)) hDnew C5.lnew C5.dl ⟨m5, C5.ns.at' fun ob e => k6 _ ob (fun q => (wrNe _ q).1 rfl) e⟩ (k6 _ _ (fun q => (wrNe _ q).2 rfl) acc5) ?_
        rw [hys, List.append_nil]
        exact VRs_imm imm5 r5
    · exact ⟨0, h4, s₂.toks, _, [], 0, [], rfl, Nat.zero_le _, rfl, W.frame _ _ _ st fun b _ ob e => k2 b ob e, C4, acc4, VRs.nil, fun y hy => (by cases hy), Nat.le_refl _, ys, hd, rfl⟩
  have st4 : S 0 h4 := W.frame _ _ _ st fun b _ ob e => k2 b ob e
  subst hce
  exact codeAny_compStart_list loop (W.self 0 _ _ _ st4 loop)
end
end Mine
end
section
open PySem PySem.W PyProof.Rows
namespace Mine
noncomputable def relX (X names : Names) : Names := names.map fun p => if p.2 = .free ∧ X.lookup p.1 = some .cell then (p.1, .cell) else p
noncomputable def compOk (X names : Names) (own : List Nat) : Bool :=
  own.all (fun i => decide (names.lookup (vn i) = some .local ∨ names.lookup (vn i) = some .cell) && decide (i < 48)) &&
  names.all (fun p => match p.2 with
    | .free => decide (X.lookup p.1 = some .cell ∨ X.lookup p.1 = some .free) && own.all fun i => decide (p.1 ≠ vn i)
    | .local => decide (names.lookup p.1 = some .local)
    | .cell => own.any fun i => decide (p.1 = vn i)
    | _ => true) &&
  (List.range 48).all (fun j => decide (j ∈ own) || match (relX X names).lookup (vn j) with
    | some .local => false
    | some .cell => decide ((vn j, NameKind.free) ∈ names ∧ X.lookup (vn j) = some .cell)
    | some .free => decide ((vn j, NameKind.free) ∈ names ∧ X.lookup (vn j) = some .free)
    | _ => true) &&
  decide ((relX X names).lookup (PySem.Str.ofString "?") = none)
structure CompOk (X names : Names) (own : List Nat) : Prop where
  hx : ∀ i ∈ own, (names.lookup (vn i) = some .local ∨ names.lookup (vn i) = some .cell) ∧ i < 48
  free : ∀ y, (y, NameKind.free) ∈ names → (X.lookup y = some .cell ∨ X.lookup y = some .free) ∧ ∀ i ∈ own, y ≠ vn i
  loc : ∀ y, (y, NameKind.local) ∈ names → names.lookup y = some .local
  cell : ∀ y, (y, NameKind.cell) ∈ names → ∃ i ∈ own, y = vn i
  vars : ∀ j, j < 48 → j ∉ own → ∀ kd, (relX X names).lookup (vn j) = some kd → (kd == .local || kd == .cell || kd == .free) = true → (vn j, NameKind.free) ∈ names ∧ X.lookup (vn j) = some kd ∧ kd ≠ .local
  noq : (relX X names).lookup (PySem.Str.ofString "?") = none
theorem compOk_of {X names : Names} {own : List Nat} (h : compOk X names own = true) : CompOk X names own := by
  unfold compOk at h
  simp only [Bool.and_eq_true, decide_eq_true_eq, List.all_eq_true] at h
  obtain ⟨⟨⟨h1, h4⟩, h5⟩, h6⟩ := h
  refine ⟨h1, ?_, ?_, ?_, ?_, h6⟩
  · intro y hy
    have := h4 _ hy
    simpa only [Bool.and_eq_true, decide_eq_true_eq, List.all_eq_true] using this
  · intro y hy
    have := h4 _ hy
    simpa only [decide_eq_true_eq] using this
  · intro y hy
    have := h4 _ hy
    simpa only [List.any_eq_true, decide_eq_true_eq] using this
  · intro j hj hji kd hkd hl
    have := h5 j (List.mem_range.mpr hj)
    rw [hkd] at this
    simp only [Bool.or_eq_true, decide_eq_true_eq] at this
    rcases this with q | q
    · exact absurd q hji
    · cases kd <;> first | cases hl | skip
      · cases q
      · simp only [decide_eq_true_eq] at q; exact ⟨q.1, q.2, by intro e; cases e⟩
      · simp only [decide_eq_true_eq] at q; exact ⟨q.1, q.2, by intro e; cases e⟩
theorem relabel_names {X : Names} {env : Env} {scope : Scope} (hk : env.scope.kind = .function) (hn : ∀ x, env.kindOf x = X.lookup x) : (relabel scope env).names = relX X scope.names := by
  unfold relabel relX
  refine List.map_congr_left fun p _ => ?_
  obtain ⟨n, k⟩ := p
  simp only [hn, hk]
  by_cases h : k = .free ∧ X.lookup n = some .cell
  · rw [if_pos h, h.1, h.2]; rfl
  · rw [if_neg h]
    split
    · rename_i q
      simp only [Bool.and_eq_true, beq_iff_eq] at q
      exact absurd ⟨q.1.1, q.2⟩ h
    · rfl
theorem lookup_rel_keep {X : Names} {y : PySem.Str} {k : NameKind} (hk : k ≠ .free) : ∀ {names : Names}, names.lookup y = some k → (relX X names).lookup y = some k
  | [], h => by cases h
  | (n, kd) :: r, h => by
    show List.lookup y ((if kd = .free ∧ X.lookup n = some .cell then (n, .cell) else (n, kd)) :: relX X r) = _
    cases hy : y == n with
    | true =>
      simp only [List.lookup_cons, hy] at h
      cases h
      rw [if_neg (fun q => hk q.1)]
      simp only [List.lookup_cons, hy]
    | false =>
      simp only [List.lookup_cons, hy] at h
      split
      · simp only [List.lookup_cons, hy]; exact lookup_rel_keep hk h
      · simp only [List.lookup_cons, hy]; exact lookup_rel_keep hk h
theorem mem_of_rel {X : Names} {y : PySem.Str} {k : NameKind} : ∀ {names : Names}, (relX X names).lookup y = some k → (y, k) ∈ names ∨ ((y, NameKind.free) ∈ names ∧ X.lookup y = some .cell ∧ k = .cell)
  | [], h => by cases h
  | (n, kd) :: r, h => by
    have h : List.lookup y ((if kd = .free ∧ X.lookup n = some .cell then (n, .cell) else (n, kd)) :: relX X r) = some k := h
    have tl : (relX X r).lookup y = some k → (y, k) ∈ (n, kd) :: r ∨ ((y, NameKind.free) ∈ (n, kd) :: r ∧ X.lookup y = some .cell ∧ k = .cell) := fun q => by
      rcases mem_of_rel q with a | a
      · exact Or.inl (List.mem_cons_of_mem _ a)
      · exact Or.inr ⟨List.mem_cons_of_mem _ a.1, a.2⟩
    by_cases hc : kd = .free ∧ X.lookup n = some .cell
    · rw [if_pos hc] at h
      cases hy : y == n with
      | true =>
        simp only [List.lookup_cons, hy] at h
        cases h
        have := eq_of_beq hy
        subst this
        exact Or.inr ⟨by rw [hc.1]; exact List.mem_cons_self, hc.2, rfl⟩
      | false =>
        simp only [List.lookup_cons, hy] at h
        exact tl h
    · rw [if_neg hc] at h
      cases hy : y == n with
      | true =>
        simp only [List.lookup_cons, hy] at h
        cases h
        have := eq_of_beq hy
        subst this
        exact Or.inl List.mem_cons_self
      | false =>
        simp only [List.lookup_cons, hy] at h
        exact tl h
theorem vn_q {i : Nat} (h : 48 ≤ i) : vn i = PySem.Str.ofString "?" := by
  unfold vn
  rw [List.getElem?_eq_none (show vtab.length ≤ i from h)]
section
variable {G : Gl} {X : Names} {env cenv : Env} {P : Addr → Prop} {o : Option Addr} {loc l : Loc} {h₁ h' : Heap} {scope : Scope} {own : List Nat}
theorem comp_ok (hc : CompOk X scope.names own) (O : Ok G X env P o loc h₁) (K : Kp h₁ h') (hkind : cenv.scope.kind = .function) (hnames : cenv.scope.names = relX X scope.names) (hglob : cenv.globals = env.globals) (hblt : cenv.builtins = env.builtins)
    (hcl : ∀ y, y ∉ scope.names.filterMap (fun p => if p.2 = .cell then some p.1 else none) → cenv.cells.lookup y = (closeL env scope.names []).lookup y)
    (hown : ∀ y, (y, NameKind.cell) ∈ scope.names → ∃ c, cenv.cells.lookup y = some c) (hl : ∀ j, j ∉ own → l j = loc j)
    (hv : ∀ i ∈ own, ∀ u, l i = some u → ∃ v', Holds cenv h' (vn i) v' ∧ VR h' P o u v') : Ok G (relX X scope.names) cenv P o l h' := by
  have caught : ∀ y, (y, NameKind.free) ∈ scope.names → ∃ c, env.cells.lookup y = some c ∧ cenv.cells.lookup y = some c := fun y hy => by
    obtain ⟨hX, hne⟩ := hc.free y hy
    have : ∃ c, env.cells.lookup y = some c := by
      rcases hX with q | q
      · exact O.cl y _ q rfl
      · exact O.cl y _ q rfl
    obtain ⟨c, e⟩ := this
    refine ⟨c, e, ?_⟩
    rw [hcl y ?_, close_lookup _ _ hy, e]; rfl
    intro q
    obtain ⟨p, hp, hq⟩ := List.mem_filterMap.mp q
    split at hq
    · cases hq
      rename_i hpk
      obtain ⟨i, hi, e'⟩ := hc.cell p.1 (by rw [← hpk]; exact hp)
      exact hne i hi e'
    · cases hq
  refine ⟨hkind, fun x => by rw [← hnames]; rfl, hglob.trans O.glob, hblt.trans O.blt, O.base.keeps K, ?_, fun a e => O.fresh a (none_of_kp K e), ?_⟩
  · intro i v e k hk hl'
    by_cases hi : i ∈ own
    · exact hv i hi v e
    · rw [hl i hi] at e
      have h48 : i < 48 := by
        rcases Nat.lt_or_ge i 48 with q | q
        · exact q
        · rw [vn_q q, hc.noq] at hk; cases hk
      obtain ⟨hm, hX, hne⟩ := hc.vars i h48 hi k hk hl'
      obtain ⟨v', H, r⟩ := O.vars i v e k hX hl'
      obtain ⟨c, e1, e2⟩ := caught _ hm
      refine ⟨v', ?_, r.keeps K⟩
      have cell : h'.IsCell c (some v') := by
        cases H with
        | loc a m n e' =>
          rw [O.names, hX] at a
          exact absurd (Option.some.inj a) hne
        | cell a c' hc' e' => rw [e1] at hc'; cases hc'; exact e'.keeps K
        | free a c' hc' e' => rw [e1] at hc'; cases hc'; exact e'.keeps K
      have hk' : cenv.kindOf (vn i) = some k := by rw [← hk, ← hnames]; rfl
      cases k <;> first | cases hl' | skip
      · exact absurd rfl hne
      · exact .cell hk' c e2 cell
      · exact .free hk' c e2 cell
  · intro y k hk hl'
    rcases mem_of_rel hk with q | q
    · cases k <;> first | cases hl' | skip
      · exact hown y q
      · obtain ⟨c, _, e⟩ := caught y q
        exact ⟨c, e⟩
    · obtain ⟨c, _, e⟩ := caught y q.1
      exact ⟨c, e⟩
theorem ns_uniq {h : Heap} {a : Addr} {m m' : PySem.Str → Option Value} (x : h.Ns a m) (y : h.Ns a m') : m = m' := by
  obtain ⟨ob, es, ep, g, d, _, f⟩ := x
  obtain ⟨ob', es', ep', g', d', _, f'⟩ := y
  rw [g] at g'
  cases g'
  rw [d] at d'
  cases d'
  funext z
  rw [← f, ← f']
theorem comp_store {prog : Program} {w : World} {A : Around} {E : Value → Shared → Prop} {s : Shared} {Q : Unit → Shared → Prop} {h₂ : Heap} {wr : List Addr} {D : Addr} {m : PySem.Str → Option Value} {i : Nat} {v' : Value} (hc : CompOk X scope.names own) (hi : i ∈ own) (hkind : cenv.scope.kind = .function)
    (hnames : cenv.scope.names = relX X scope.names) (hone : scope.names.lookup (vn i) = some .local ∨ own = [i]) (C : Ci cenv scope.names h₂ wr D m s.heap)
    (hQ : ∀ h' m' tk, Ci cenv scope.names h₂ wr D m' h' → Holds cenv h' (vn i) v' → (∀ j ∈ own, j ≠ i → ∀ u, Holds cenv s.heap (vn j) u → Holds cenv h' (vn j) u) → (∀ b ob, b ≠ cenv.locals → (∀ y c, (y, NameKind.cell) ∈ scope.names → cenv.cells.lookup y = some c → b ≠ c) → s.heap.get? b = some ob → h'.get? b = some ob) →
      (∀ {P : Addr → Prop} {o : Option Addr} {x : V} {u : Value}, VR s.heap P o x u → VR h' P o x u) → Q () { s with heap := h', toks := tk }) : wpAny (model prog w) A (storeName cenv (vn i) v') Q E s := by
  obtain ⟨hx, h48⟩ := hc.hx i hi
  have hkd : ∀ k, scope.names.lookup (vn i) = some k → k ≠ .free → cenv.kindOf (vn i) = some k := fun k e hne => by
    show cenv.scope.names.lookup (vn i) = some k
    rw [hnames]
    exact lookup_rel_keep hne e
  obtain ⟨obL, gL, nL⟩ := ns_notList C.ns
  by_cases hloc : scope.names.lookup (vn i) = some .local
  · refine wpAny_storeName_local (hkd _ hloc (by intro e; cases e)) C.ns (fun h' hn hs => hQ h' (fun x => if x = vn i then some v' else m x) _ ?_ ?_ ?_ ?_ ?_) (by rw [hkind]; rfl)
    · refine ⟨fun b ob hb e => hs.extBut b ob (fun q => by rw [q, C.lnew] at e; cases e) (C.keep b ob hb e), hn, C.lnew, C.dnew, C.dl, fun y hy => ?_⟩
      obtain ⟨c, e, e1, e2, e3, cv, d⟩ := C.own y hy
      exact ⟨c, e, e1, e2, e3, cv, d.sameBut hs e2⟩
    · exact .loc (hkd _ hloc (by intro e; cases e)) _ hn (by simp)
    · intro j hj hji u H
      have hj48 := (hc.hx j hj).2
      cases H with
      | loc a m' n e =>
        have := ns_uniq n C.ns
        subst this
        refine .loc a _ hn ?_
        rw [if_neg (fun q => hji (vn_inj (show j < vtab.length from hj48) (show i < vtab.length from h48) q))]
        exact e
      | cell a c hc' e => exact .cell a c hc' (e.sameBut hs (fun q => by
          obtain ⟨ob, g, d⟩ := e
          obtain ⟨ob', _, _, g', d', _⟩ := C.ns
          rw [q, g'] at g
          cases g
          rw [d'] at d; cases d))
      | free a c hc' e => exact .free a c hc' (e.sameBut hs (fun q => by
          obtain ⟨ob, g, d⟩ := e
          obtain ⟨ob', _, _, g', d', _⟩ := C.ns
          rw [q, g'] at g
          cases g
          rw [d'] at d; cases d))
    · exact fun b ob h1 _ e => hs.extBut b ob h1 e
    · exact fun r => r.sameBut hs gL nL
  · have hcell : scope.names.lookup (vn i) = some .cell := by rcases hx with q | q; exact absurd q hloc; exact q
    have hown : own = [i] := by rcases hone with q | q; exact absurd q hloc; exact q
    have hm : (vn i, NameKind.cell) ∈ scope.names := mem_of_lookup hcell
    obtain ⟨c, e, e1, e2, e3, cv, d⟩ := C.own _ hm
    obtain ⟨obc, gc, nc⟩ := cell_notList d
    refine wpAny_storeName_cell hkind (hkd _ hcell (by intro e; cases e)) e d (fun h' hn hs => hQ h' m s.toks ?_ ?_ ?_ ?_ ?_)
    · refine ⟨fun b ob hb e => hs.extBut b ob (fun q => by rw [q, e1] at e; cases e) (C.keep b ob hb e), C.ns.sameBut hs (Ne.symm e2), C.lnew, C.dnew, C.dl, fun y hy => ?_⟩
      obtain ⟨c', f, f1, f2, f3, cv', d'⟩ := C.own y hy
      by_cases hcc : c' = c
      · subst hcc; exact ⟨_, f, f1, f2, f3, _, hn⟩
      · exact ⟨c', f, f1, f2, f3, cv', d'.sameBut hs hcc⟩
    · exact .cell (hkd _ hcell (by intro e; cases e)) c e hn
    · intro j hj hji
      rw [hown, List.mem_singleton] at hj
      exact absurd hj hji
    · exact fun b ob _ h2 e' => hs.extBut b ob (h2 _ c hm e) e'
    · exact fun r => r.sameBut hs gc nc
end
end Mine
end
section
open PySem PySem.W PyProof.Rows
namespace Mine
theorem compL_length (t : Loc → Option Bool) (de : DE) : ∀ (ls : List Loc) (ys : List V), compL t de ls = some ys → ys.length ≤ ls.length
  | [], ys, h => by cases h; exact Nat.le_refl _
  | l :: r, ys, h => by
    simp only [compL, Option.bind_eq_some_iff] at h
    obtain ⟨c, hc, h⟩ := h
    cases c
    · simp only [Bool.false_eq_true, if_false] at h
      exact Nat.le_succ_of_le (compL_length t de r ys h)
    · simp only [if_true, Option.bind_eq_some_iff] at h
      obtain ⟨y, hy, h⟩ := h
      split at h
      case isFalse => cases h
      simp only [Option.map_eq_some_iff] at h
      obtain ⟨z, hz, rfl⟩ := h
      exact Nat.succ_le_succ (compL_length t de r z hz)
section
variable {prog : Program} {w : World} {G : Gl} {n : Nat} {X : Names}
theorem comp_name {elt iter : Expr} {ifs : List Expr} {scope : Scope} {pos xp : Pos} {x : PySem.Str} {env : Env} {A : Around} {s : Shared} {E : Value → Shared → Prop} {P : Addr → Prop} {o : Option Addr} {loc : Loc} {i : Nat} {d : Loc → Option (List V)}
    {t : Loc → Option Bool} {de : DE} {xs ys : List V} {RR : Value → Addr → Result → Shared → Prop} (hA : AOk n A) (O : Ok G X env P o loc s.heap) (hn : vn i = x) (hc : compOk X scope.names [i] = true) (hkind : scope.kind = .function)
    (hi : EI prog w G n X iter d) (hT : TTs prog w G n (relX X scope.names) ifs t) (hE : ET prog w G n (relX X scope.names) elt de) (hxs : d loc = some xs) (hys : compL t de (xs.map fun x => upd loc i x) = some ys)
    (hRR : ∀ D C h' tk vs k, Kp s.heap h' → s.heap.get? D = none → s.heap.get? C = none → D ≠ C → (∃ m, h'.Ns C m) → h'.get? D = some (listObj vs k) → VRs h' P ys vs → RR (.ref D) C (.ok .next) { s with heap := h', toks := tk }) :
    wpAny (model prog w) A (eval iter env) (fun v s₁ => wpAny (model prog w) A (pyIter v) (fun it s₂ => wpAny (model prog w) A (newList []) (fun acc s₃ => wpAny (model prog w) A (newFunctionEnv scope env.globals (closeL env scope.names []) [] env.qual none .none (some env)) (fun cenv s₄ =>
      codeAny (model prog w) A (.compStart (.ListComp elt [⟨.Name x xp, iter, ifs, 0⟩] scope pos) 0 it acc { cenv with scope := relabel scope env }) (RR acc cenv.locals) s₄) E s₃) E s₂) E s₁) E s := by
  have C := compOk_of hc
  subst hn
  refine hi A env P o loc s _ _ xs hA O hxs fun h2 t2 I fp wr Pv S k2 it => ?_
  obtain ⟨I, rfl, W⟩ := it.walk
  have hrel := relabel_names (scope := scope) O.kind O.names
  have W' : Walks prog w A I fp wr (xs.map fun x => upd loc i x).length Pv S := by rw [List.length_map]; exact W
  have fpE : ∀ b ∈ fp, ∃ ob, h2.get? b = some ob := fun b hb => by
    rcases it.fpOk b hb with q | ⟨_, vs, k, g⟩
    · obtain ⟨ob, e, _⟩ := it.wrObj 0 _ it.st b q; exact ⟨ob, e⟩
    · exact ⟨_, g⟩
  refine comp_core (P := P) (o := o) (Xc := relX X scope.names) (Mid := fun j v h => Pv j v ∧ S (j + 1) h) (s₂ := { s with heap := h2, toks := t2 }) hA ⟨W'.sub, W'.frame, fun i s Q E hi hS hQ => W'.item i s Q E hi hS fun v h' tk a b c => hQ v h' tk ⟨a, b⟩ c, W'.done, W'.self⟩ it.st fpE (by rw [List.length_map]; exact it.small) hkind ?_ hT hE hys ?_
  · rintro cenv D j l v m s5 Q5 E5 hl ⟨L, cs, hce⟩ hcl ⟨hv, S5⟩ Ci5 hD5 hQ5
    refine wpAny_of_eq (a := ()) rfl ?_
    rw [List.getElem?_map, Option.map_eq_some_iff] at hl
    obtain ⟨x, hx, rfl⟩ := hl
    have hck : cenv.scope.kind = .function := by rw [hce]; exact hkind
    have hcn : cenv.scope.names = relX X scope.names := by rw [hce]; exact hrel
    have K5 : Kp s.heap s5.heap := fun b ob e => Ci5.keep b ob (fun q => by rw [it.wrNew b q] at e; cases e) (k2 b ob e)
    have lists : ∀ a vs k, P a → h2.get? a = some (listObj vs k) → s5.heap.get? a = some (listObj vs k) := fun a vs k _ g => Ci5.keep a _ (fun q => by
      obtain ⟨ob, g', hn⟩ := it.wrObj _ _ it.st a q
      rw [g'] at g; exact hn _ _ (Option.some.inj g)) g
    have rv := it.val j x v s5.heap hx hv lists
    refine wpAny_assign_Name (comp_store (scope := scope) (own := [i]) (X := X) (h₂ := h2) C (List.mem_singleton.mpr rfl) hck hcn (Or.inr rfl) Ci5 fun h6 m6 t6 Ci6 H6 _ k6 r6 => ?_)
    have ownNe : ∀ y c, (y, NameKind.cell) ∈ scope.names → cenv.cells.lookup y = some c → h2.get? c = none ∧ c ≠ D := fun y c hy e => by
      obtain ⟨c', e', e1, _, e3, _⟩ := Ci5.own y hy
      rw [e] at e'; cases e'
      exact ⟨e1, e3⟩
    refine hQ5 h6 m6 t6 ?_ Ci6 (W'.frame _ _ _ S5 fun b hb ob e => ?_) (fun ob e => k6 D ob Ci5.dl (fun y c hy hc' => Ne.symm (ownNe y c hy hc').2) e)
    rotate_left
    · obtain ⟨ob', g⟩ := fpE b hb
      exact k6 b ob (fun q => by rw [q, Ci5.lnew] at g; cases g) (fun y c hy hc' q => by rw [q, (ownNe y c hy hc').1] at g; cases g) e
    have K6 : Kp s.heap h6 := fun b ob e => Ci6.keep b ob (fun q => by rw [it.wrNew b q] at e; cases e) (k2 b ob e)
    refine comp_ok C O K6 hck hcn (by rw [hce]; rfl) (by rw [hce]; rfl) hcl (fun y hy => let ⟨c, e, _⟩ := Ci6.own y hy; ⟨c, e⟩) (fun j hj => upd_ne _ _ (fun q => hj (List.mem_singleton.mpr q))) (fun j hj u hu => ?_)
    rw [List.mem_singleton] at hj
    subst hj
    rw [upd_self] at hu
    cases hu
    exact ⟨v, H6, (r6 rv).unown rv.none_free⟩
  · intro D C' h' tk vs k k2' hD hC' hne hns hacc r
    exact hRR D C' h' tk vs k (fun b ob e => k2' b ob (fun q => by rw [it.wrNew b q] at e; cases e) (k2 b ob e)) (none_of_kp k2 hD) (none_of_kp k2 hC') hne hns hacc r
theorem caught_of {X names : Names} {own : List Nat} (hc : CompOk X names own) {env : Env} {P : Addr → Prop} {o : Option Addr} {loc : Loc} {h : Heap} (O : Ok G X env P o loc h) : ∀ p ∈ names, p.2 = .free → ∃ c, env.cells.lookup p.1 = some c := fun p hp hk => by
  obtain ⟨hX, _⟩ := hc.free p.1 (by rw [← hk]; exact hp)
  rcases hX with q | q
  · exact O.cl _ _ q rfl
  · exact O.cl _ _ q rfl
noncomputable def dComp (i : Nat) (d : Loc → Option (List V)) (t : Loc → Option Bool) (de : DE) : DE := fun l => (d l).bind fun xs => (compL t de (xs.map fun x => upd l i x)).map .list
theorem ET_comp {elt iter : Expr} {ifs : List Expr} {scope : Scope} {pos xp : Pos} {x : PySem.Str} {d : Loc → Option (List V)} {t : Loc → Option Bool} {de : DE} (i : Nat) (hn : vn i = x) (hc : compOk X scope.names [i] = true) (hkind : scope.kind = .function)
    (hi : EI prog w G n X iter d) (hT : TTs prog w G n (relX X scope.names) ifs t) (hE : ET prog w G n (relX X scope.names) elt de) (hs : ∀ env x, foldedSetIterable iter env x = pure x) :
    ET prog w G n X (.ListComp elt [⟨.Name x xp, iter, ifs, 0⟩] scope pos) (dComp i d t de) := by
  intro A env P o loc s Q E v hA O hd h
  simp only [dComp, Option.bind_eq_some_iff, Option.map_eq_some_iff] at hd
  obtain ⟨xs, hxs, ys, hys, rfl⟩ := hd
  rw [eval_ListComp]
  have C := compOk_of hc
  refine wpAny_comprehension_free (use := none) rfl (hs env) (close_of (caught_of C O)) hkind (fun p hp hl => C.loc p.1 (by rw [← hl]; exact hp)) ?_
  refine comp_name hA O hn hc hkind hi hT hE hxs hys (RR := fun acc C => compPost (model prog w) A E none Q acc C) fun D C' h' tk vs k k1 hD hC hne hns hacc r => ?_
  obtain ⟨m, hns⟩ := hns
  refine ⟨m, hns, fun h'' hs'' => h h'' tk _ (fun b ob e => hs''.extBut b ob (fun q => by rw [q, hC] at e; cases e) (k1 b ob e)) ?_⟩
  obtain ⟨obL, gL, nL⟩ := ns_notList hns
  have rv : VR h' P o (.list ys) (.ref D) := by
    unfold VR
    exact ⟨D, vs, k, rfl, O.fresh D hD, hacc, r⟩
  exact rv.sameBut hs'' gL nL
theorem E1_setComp {elt iter : Expr} {ifs : List Expr} {scope : Scope} {pos xp yp spos : Pos} {x y : PySem.Str} {d : Loc → Option (List V)} {t : Loc → Option Bool} {de : DE} (i j : Nat) (k : NameKind) (hn : vn i = x) (hm : vn j = y) (hk : X.lookup y = some k) (hl : (k == .local || k == .cell) = true)
    (hc : compOk X scope.names [i] = true) (hkind : scope.kind = .function)
    (hi : EI prog w G n X iter d) (hT : TTs prog w G n (relX X scope.names) ifs t) (hE : ET prog w G n (relX X scope.names) elt de) (hs : ∀ env x, foldedSetIterable iter env x = pure x)
    (hsw : ∀ env : Env, env.scope.kind = .function → (∀ z, env.kindOf z = X.lookup z) → swapsWith (.ListComp elt [⟨.Name x xp, iter, ifs, 0⟩] scope pos) (some (.Name y yp)) spos.line env = pure true) :
    E1 prog w G n X (.Assign [.Name y yp] (.ListComp elt [⟨.Name x xp, iter, ifs, 0⟩] scope pos) spos) (sSet j (dComp i d t de)) := by
  intro A env P₀ h₀ o loc m s Q E fl hA F hd h
  simp only [sSet, dComp, Option.bind_eq_some_iff, Option.map_eq_some_iff] at hd
  obtain ⟨v, ⟨xs, hxs, ys, hys, rfl⟩, hd⟩ := hd
  split at hd <;> cases hd
  subst hm
  have C := compOk_of hc
  rw [exec_Assign_Name_used _ _ _ _ (hsw env F.kind F.names)]
  refine wpAny_bind (wpAny_standAt (wpAny_bind ?_))
  show wpAny _ A (do let _ ← comprehension (.ListComp elt [⟨.Name x xp, iter, ifs, 0⟩] scope pos) scope env _ (newList []) false (eval iter env) (some (assign (.Name (vn j) yp) env))) _ _ s
  refine wpAny_bind (wpAny_mono (wpAny_comprehension_free (use := some (assign (.Name (vn j) yp) env)) (Q := fun _ s' => Q .next s') rfl (hs env) (close_of (caught_of C F.ok)) hkind (fun p hp hl => C.loc p.1 (by rw [← hl]; exact hp)) ?_)
    (fun _ s' hq => wpAny_pure (wpAny_pure hq)) fun _ _ e => e)
  refine comp_name hA F.ok hn hc hkind hi hT hE hxs hys (RR := fun acc C => compPost (model prog w) A E (some (assign (.Name (vn j) yp) env)) (fun _ s' => Q .next s') acc C) fun D C' h' tk vs k' k1 hD hC hne hns hacc r => ?_
  obtain ⟨mc, hns⟩ := hns
  have rv : VR h' (PO P₀ o) o (.list ys) (.ref D) := by
    unfold VR
    exact ⟨D, vs, k', rfl, F.ok.fresh D hD, hacc, r⟩
  have hCL : C' ≠ env.locals := fun q => by
    obtain ⟨ob, g, _⟩ := ns_notList F.ns
    rw [← q, hC] at g; cases g
  have hCc : ∀ z c, env.cells.lookup z = some c → C' ≠ c := fun z c e q => by
    obtain ⟨_, _, cv, hcv⟩ := F.cfresh z c e
    obtain ⟨ob, g, _⟩ := cell_notList hcv
    rw [← q, hC] at g; cases g
  have hCo : o ≠ some C' := fun q => by
    obtain ⟨_, vs, _, g⟩ := F.own C' q
    rw [hC] at g; cases g
  show wpAny _ A (assign (.Name (vn j) yp) env (.ref D)) _ _ _
  refine wpAny_assign_Name ((F.keeps k1).store (s := { s with heap := h', toks := tk }) hk hl rv rfl fun h2 m2 t2 F2 s2 => ?_)
  obtain ⟨obC, gC, nC⟩ := ns_notList hns
  have hns2 : h2.Ns C' mc := hns.at' fun ob e => s2.kept C' ob hCL hCc hCo e
  refine ⟨mc, hns2, fun h3 hs3 => ?_⟩
  obtain ⟨ob2, g2, n2⟩ := ns_notList hns2
  have s13 : St env o o s.heap h2 := (St.of_kp k1).trans s2
  refine h h3 m2 t2 o (F2.other (wr := [C']) (fun b ob hb e => hs3.extBut b ob (fun q => hb (List.mem_singleton.mpr q)) e) fun b hb => ?_) ⟨fun b ob h1 h2' h3' e => hs3.extBut b ob (fun q => by rw [q, hC] at e; cases e) (s13.kept b ob h1 h2' h3' e), fun a e => ?_, Or.inl rfl⟩
  · rw [List.mem_singleton] at hb
    subst hb
    exact ⟨none_of_kp F.keep hC, hCL, hCc, ob2, g2, n2⟩
  · by_cases ha : a = C'
    · subst ha; exact hC
    · exact s13.dom a (by rw [← hs3.2 a ha]; exact e)
end
end Mine
end
section
open PySem PySem.W PyProof.Rows
namespace Mine
noncomputable def enumL (loc : Loc) (i1 i2 : Nat) : Nat → List V → List Loc
  | _, [] => []
  | k, z :: r => upd (upd loc i1 (.int k)) i2 z :: enumL loc i1 i2 (k + 1) r
theorem enumL_length (loc : Loc) (i1 i2 : Nat) : ∀ (k : Nat) (zs : List V), (enumL loc i1 i2 k zs).length = zs.length
  | _, [] => rfl
  | k, z :: r => by simp [enumL, enumL_length loc i1 i2 (k + 1) r]
theorem enumL_get (loc : Loc) (i1 i2 : Nat) : ∀ (k : Nat) (zs : List V) (j : Nat) (l : Loc), (enumL loc i1 i2 k zs)[j]? = some l → ∃ z, zs[j]? = some z ∧ l = upd (upd loc i1 (.int ((k + j : Nat) : Int))) i2 z
  | _, [], j, l, h => by simp [enumL] at h
  | k, z :: r, 0, l, h => by
    simp only [enumL, List.getElem?_cons_zero, Option.some.injEq] at h
    exact ⟨z, rfl, h.symm⟩
  | k, z :: r, j + 1, l, h => by
    simp only [enumL, List.getElem?_cons_succ] at h
    obtain ⟨y, hy, e⟩ := enumL_get loc i1 i2 (k + 1) r j l h
    exact ⟨y, by simpa using hy, by rw [e]; congr 3; omega⟩
section
variable {prog : Program} {w : World} {G : Gl} {n : Nat} {X : Names}
noncomputable def dEnum (i1 i2 : Nat) (a : DE) (t : Loc → Option Bool) (de : DE) : DE := fun l => match a l with
  | some (.list zs) => if zs.length ≤ 4096 then (compL t de (enumL l i1 i2 0 zs)).map .list else none
  | _ => none
theorem ET_compEnum {elt e0 : Expr} {ifs : List Expr} {scope : Scope} {pos p1 p2 tp np cp : Pos} {tk : Nat} {x1 x2 en : PySem.Str} {a : DE} {t : Loc → Option Bool} {de : DE} (i1 i2 : Nat) (h1 : vn i1 = x1) (h2 : vn i2 = x2) (h12 : i1 ≠ i2) (hc : compOk X scope.names [i1, i2] = true)
    (hl1 : scope.names.lookup (vn i1) = some .local) (hl2 : scope.names.lookup (vn i2) = some .local) (hkind : scope.kind = .function)
    (hen : NameOk G en (.type "enumerate")) (hek : X.lookup en = some .globalImplicit) (hed : (en == ("__debug__" : PySem.Str)) = false) (he0 : ∀ env, starEach [e0] env = [(false, eval e0 env)])
    (ha : ET prog w G n X e0 a) (hT : TTs prog w G n (relX X scope.names) ifs t) (hE : ET prog w G n (relX X scope.names) elt de) :
    ET prog w G n X (.ListComp elt [⟨.Tuple [.Name x1 p1, .Name x2 p2] tk tp, .Call (.Name en np) [e0] [] cp, ifs, 0⟩] scope pos) (dEnum i1 i2 a t de) := by
  intro A env P o loc s Q E v hA O hd h
  unfold dEnum at hd
  split at hd
  case h_2 => cases hd
  rename_i zs hzs
  split at hd
  case isFalse => cases hd
  rename_i hle
  simp only [Option.map_eq_some_iff] at hd
  obtain ⟨ys, hys, rfl⟩ := hd
  rw [eval_ListComp]
  have C := compOk_of hc
  subst h1 h2
  refine wpAny_comprehension_free (use := none) rfl (fun _ => rfl) (close_of (caught_of C O)) hkind (fun p hp hl => C.loc p.1 (by rw [← hl]; exact hp)) ?_
  refine wpAny_Call_Name_kw (name_ok hen O hek hed ?_)
  refine PySem.callWith_type (by rw [he0 env]; rfl) ?_
  have key : wpAny (model prog w) A (spliced (backTo cp (starEach [e0] env))) (fun vs' s₁ => wpAny (model prog w) A (call (.type "enumerate") vs') (fun v s₂ => wpAny (model prog w) A (pyIter v) (fun it s₂ => wpAny (model prog w) A (newList []) (fun acc s₃ => wpAny (model prog w) A (newFunctionEnv scope env.globals (closeL env scope.names []) [] env.qual none .none (some env)) (fun cenv s₄ =>
      codeAny (model prog w) A (.compStart (.ListComp elt [⟨.Tuple [.Name (vn i1) p1, .Name (vn i2) p2] tk tp, .Call (.Name en np) [e0] [] cp, ifs, 0⟩] scope pos) 0 it acc { cenv with scope := relabel scope env }) (compPost (model prog w) A E none Q acc cenv.locals) s₄) E s₃) E s₂) E s₂) E s₁) E s := by
    rw [he0 env]
    refine Calls.spliced_cons (ha A env P o loc s _ _ _ hA O hzs fun hp1 t1 v' k1 r1 => Calls.spliced_nil ?_)
    unfold VR at r1
    obtain ⟨l, vs, j, rfl, pl, gl, rl⟩ := r1
    refine call_enumerate_list (isList_of gl) fun hp2 hen2 hit2 hsz2 k2 => ?_
    refine wpAny_pyIter_enum hen2 ?_
    have hlt : l < hp1.objs.size := Heap.lt_size gl
    have W := WalksT.enumerate (prog := prog) (w := w) hA.handled (hp1.objs.size + 1) hp1.objs.size l (Nat.succ_ne_self _) (Nat.ne_of_lt (Nat.lt_succ_of_lt hlt)) (Nat.ne_of_lt hlt) vs.toArray
    have hlen : vs.toArray.size = (enumL loc i1 i2 0 zs).length := by rw [enumL_length]; simp [rl.length]
    rw [hlen] at W
    have hrel := relabel_names (scope := scope) O.kind O.names
    have S0 : (∃ old, IsEnum hp2 (hp1.objs.size + 1) hp1.objs.size ((0 : Nat) : Int) old) ∧ hp2.IsListIter hp1.objs.size l 0 ∧ hp2.IsList l vs.toArray := ⟨⟨_, hen2⟩, hit2, (isList_of gl).at fun ob e => k2 _ _ e⟩
    have fpE : ∀ b ∈ [hp1.objs.size + 1, hp1.objs.size, l], ∃ ob, hp2.get? b = some ob := by
      intro b hb
      simp only [List.mem_cons, List.not_mem_nil, or_false] at hb
      rcases hb with rfl | rfl | rfl
      · exact ⟨_, hen2⟩
      · obtain ⟨ob, g, _⟩ := hit2; exact ⟨ob, g⟩
      · exact ⟨_, k2 _ _ gl⟩
    have wrNew : ∀ b ∈ [hp1.objs.size + 1, hp1.objs.size], hp1.get? b = none := by
      intro b hb
      cases e : hp1.get? b with
      | none => rfl
      | some ob =>
        have := Heap.lt_size e
        simp only [List.mem_cons, List.not_mem_nil, or_false] at hb
        rcases hb with rfl | rfl
        · exact absurd this (Nat.not_lt.mpr (Nat.le_succ _))
        · exact absurd this (Nat.lt_irrefl _)
    refine comp_core (P := P) (o := o) (Xc := relX X scope.names) (Mid := fun j v h => ∃ T vals, v = .ref T ∧ (∃ t x, vs.toArray[j]? = some x ∧ vals = #[.int j t, x]) ∧ h.IsTuple T vals ∧ ((∃ x, IsEnumOut h (hp1.objs.size + 1) hp1.objs.size ((j : Int) + 1) x T) ∧ h.IsListIter hp1.objs.size l (j + 1) ∧ h.IsList l vs.toArray ∧ T ≠ hp1.objs.size + 1 ∧ T ≠ hp1.objs.size))
      (s₂ := { s with heap := hp2, toks := t1 }) hA ⟨W.sub, W.frame, fun i s Q E hi hS hQ => W.item i s Q E hi hS fun T vals h' tk hP hT hTup hM hk => hQ _ h' tk ⟨T, vals, rfl, hP, hTup, hM⟩ hk, W.done, W.self⟩ S0 fpE (by rw [enumL_length]; exact hle) hkind ?_ hT hE hys ?_
    · rintro cenv D j lo v m s5 Q5 E5 hl ⟨L, cs, hce⟩ hcl ⟨T, vals, rfl, ⟨tt, x, hx, rfl⟩, hTup, hMid⟩ Ci5 hD5 hQ5
      obtain ⟨z, hz, rfl⟩ := enumL_get loc i1 i2 0 zs j lo hl
      refine W.go _ _ _ j T s5 _ _ hMid fun h6 S6 k6 => ?_
      have hTw : T ∉ [hp1.objs.size + 1, hp1.objs.size] := W.apart j T s5.heap hMid
      have hne : ∀ b, hp2.get? b = none → b ∉ [hp1.objs.size + 1, hp1.objs.size] := fun b e q => by
        obtain ⟨ob, g⟩ := fpE b (by
          simp only [List.mem_cons, List.not_mem_nil, or_false] at q ⊢
          rcases q with q | q
          · exact Or.inl q
          · exact Or.inr (Or.inl q))
        rw [e] at g; cases g
      have hck : cenv.scope.kind = .function := by rw [hce]; exact hkind
      have hcn : cenv.scope.names = relX X scope.names := by rw [hce]; exact hrel
      refine wpAny_assign_Tuple (s := { s5 with heap := h6 }) hA.handled (hTup.at fun ob e => k6 T ob hTw e) rfl rfl fun h7 x7 => ?_
      have k67 : Kp h6 h7 := fun b ob e => x7 b ob (Nat.ne_of_lt (Heap.lt_size e)) e
      have Ci7 : Ci cenv scope.names hp2 [hp1.objs.size + 1, hp1.objs.size] D m h7 := by
        refine ⟨fun b ob hb e => k67 _ _ (k6 _ _ hb (Ci5.keep b ob hb e)), (Ci5.ns.at' fun ob e => k6 _ _ (hne _ Ci5.lnew) e).keeps k67, Ci5.lnew, Ci5.dnew, Ci5.dl, fun y hy => ?_⟩
        obtain ⟨c, e, e1, e2, e3, cv, ob, g, d⟩ := Ci5.own y hy
        exact ⟨c, e, e1, e2, e3, cv, ob, k67 _ _ (k6 _ _ (hne c e1) g), d⟩
      have own2 : [i1, i2] = [i1, i2] := rfl
      refine assignInOrder_cons (wpAny_assign_Name (comp_store (scope := scope) (own := [i1, i2]) (X := X) C (List.mem_cons_self) hck hcn (Or.inl hl1) Ci7 fun h8 m8 t8 Ci8 H8 _ k8 r8 => ?_))
      refine assignInOrder_cons (wpAny_assign_Name (comp_store (s := { s5 with heap := h8, toks := t8 }) (scope := scope) (own := [i1, i2]) (X := X) C (List.mem_cons_of_mem _ List.mem_cons_self) hck hcn (Or.inl hl2) Ci8 fun h9 m9 t9 Ci9 H9 oth9 k9 r9 => ?_))
      refine assignInOrder_nil ?_
      have ownNe : ∀ y c, (y, NameKind.cell) ∈ scope.names → cenv.cells.lookup y = some c → hp2.get? c = none ∧ c ≠ D := fun y c hy e => by
        obtain ⟨c', e', e1, _, e3, _⟩ := Ci5.own y hy
        rw [e] at e'; cases e'
        exact ⟨e1, e3⟩
      have step : ∀ b ob, (b ≠ cenv.locals) → (∀ y c, (y, NameKind.cell) ∈ scope.names → cenv.cells.lookup y = some c → b ≠ c) → h6.get? b = some ob → h9.get? b = some ob := fun b ob a1 a2 e => k9 b ob a1 a2 (k8 b ob a1 a2 (k67 b ob e))
      refine hQ5 h9 m9 t9 ?_ Ci9 (W.frame _ _ _ S6 fun b hb ob e => ?_) (fun ob e => step D ob Ci5.dl (fun y c hy hc' => Ne.symm (ownNe y c hy hc').2) (k6 D ob (hne D Ci5.dnew) e))
      rotate_left
      · obtain ⟨ob', g⟩ := fpE b hb
        exact step b ob (fun q => by rw [q, Ci5.lnew] at g; cases g) (fun y c hy hc' q => by rw [q, (ownNe y c hy hc').1] at g; cases g) e
      have K9 : Kp s.heap h9 := fun b ob e => Ci9.keep b ob (fun q => by have := k1 b ob e; rw [wrNew b q] at this; cases this) (k2 b ob (k1 b ob e))
      refine comp_ok C O K9 hck hcn (by rw [hce]; rfl) (by rw [hce]; rfl) hcl (fun y hy => let ⟨c, e, _⟩ := Ci9.own y hy; ⟨c, e⟩) (fun b hb => ?_) (fun b hb u hu => ?_)
      · simp only [List.mem_cons, List.not_mem_nil, or_false, not_or] at hb
        rw [upd_ne _ _ hb.2, upd_ne _ _ hb.1]
      · simp only [List.mem_cons, List.not_mem_nil, or_false] at hb
        rcases hb with rfl | rfl
        · rw [upd_ne _ _ h12, upd_self] at hu
          cases hu
          refine ⟨_, oth9 b List.mem_cons_self h12 _ H8, ?_⟩
          unfold VR
          exact ⟨tt, by rw [Nat.zero_add]⟩
        · rw [upd_self] at hu
          cases hu
          refine ⟨x, H9, ?_⟩
          obtain ⟨x', hx', rx⟩ := VRs.get rl hz
          have : x' = x := by
            have hx0 : vs[j]? = some x := by simpa using hx
            rw [hx'] at hx0
            exact Option.some.inj hx0
          subst this
          have lists : ∀ a vs' k, P a → hp1.get? a = some (listObj vs' k) → h7.get? a = some (listObj vs' k) := fun a vs' k _ g => Ci7.keep a _ (fun q => by rw [wrNew a q] at g; cases g) (k2 _ _ g)
          have r7 : VR h7 P none z x' := VR.mono (fun a vs n p g => ⟨p, lists a vs n p g⟩) (fun a vs n p g => by cases p) _ rx
          exact (r9 (r8 r7)).unown rx.none_free
    · intro D C' h' tk' vs' k k2' hD hC' hne hns hacc r
      obtain ⟨m, hns⟩ := hns
      have K : Kp s.heap h' := fun b ob e => k2' b ob (fun q => by have := k1 b ob e; rw [wrNew b q] at this; cases this) (k2 b ob (k1 b ob e))
      have kk : Kp s.heap hp2 := fun b ob e => k2 b ob (k1 b ob e)
      have hC0 := none_of_kp kk hC'
      refine ⟨m, hns, fun h'' hs'' => h h'' tk' _ (fun b ob e => hs''.extBut b ob (fun q => by rw [q, hC0] at e; cases e) (K b ob e)) ?_⟩
      obtain ⟨obL, gL, nL⟩ := ns_notList hns
      have rv : VR h' P o (.list ys) (.ref D) := by
        unfold VR
        exact ⟨D, vs', k, rfl, O.fresh D (none_of_kp kk hD), hacc, r⟩
      exact rv.sameBut hs'' gL nL
  rw [he0 env] at key ⊢
  exact Calls.evalArgs_plain key
end
end Mine
end
section
open PySem PySem.W PyProof.Rows
namespace Mine
noncomputable def stAt (k : Nat) : Stmt := (PySem.Challenge.pw_xg0016_01.main.body[k]?).getD (.Pass default)
noncomputable def bodyAt (k : Nat) : List Stmt := match stAt k with
  | .FunctionDef _ _ b _ _ _ _ _ _ _ => b
  | _ => []
noncomputable def argsAt (k : Nat) : Arguments := match stAt k with
  | .FunctionDef _ a _ _ _ _ _ _ _ _ => a
  | _ => default
noncomputable def scopeAt (k : Nat) : Scope := match stAt k with
  | .FunctionDef _ _ _ _ _ _ s _ _ _ => s
  | _ => default
noncomputable def namesAt (k : Nat) : Names := (scopeAt k).names
structure DefAt (G : Gl) (k : Nat) (a : Addr) (ob : Obj) (fd : FuncData) : Prop where
  at' : ∀ h, Base G h → h.get? a = some ob
  data : ob.data = .func fd
  rec' : ∀ h, Base G h → h.CodeRec fd.code fd.qualname
  body : fd.body = .stmts (bodyAt k)
  params : fd.params = argsAt k
  scope : fd.scope = scopeAt k
  glob : fd.globals = mainGlobals
  clos : fd.closure = []
  dflt : fd.defaults = .none
  blt : fd.builtins = builtinsNs
noncomputable def bindP : List Nat → List V → Loc → Loc
  | p :: ps, v :: vs, l => bindP ps vs (upd l p v)
  | _, _, l => l
noncomputable def l0 : Loc := fun _ => none
noncomputable def defS (ps : List Nat) (den : DS) : List V → Option V := fun vs => if vs.length = ps.length then match den (bindP ps vs l0) with
  | some (.ret v) => some v
  | _ => none else none
noncomputable def defOk (X : Names) (ps : List Nat) : Bool :=
  ps.all (fun i => decide (X.lookup (vn i) = some .local ∨ X.lookup (vn i) = some .cell) && decide (i < 48)) && X.all (fun p => decide (p.2 ≠ .free)) && decide (X.lookup (PySem.Str.ofString "?") = none)
section
variable {prog : Program} {w : World} {G : Gl} {n : Nat}
structure Bd (X : Names) (P : Addr → Prop) (h : Heap) (l : Loc) (m cm : PySem.Str → Option Value) : Prop where
  loc : ∀ i v, l i = some v → X.lookup (vn i) = some .local → ∃ v', m (vn i) = some v' ∧ VR h P none v v'
  cell : ∀ i v, l i = some v → X.lookup (vn i) = some .cell → ∃ v', cm (vn i) = some v' ∧ VR h P none v v'
  free : ∀ i v, l i = some v → v.free = true
  small : ∀ i, 48 ≤ i → l i = none
theorem bind_ok {X : Names} {P : Addr → Prop} {h : Heap} {kindOf : PySem.Str → Option NameKind} (hk : ∀ x, kindOf x = X.lookup x) : ∀ (ps : List Nat) (vs : List V) (vals : List Value) (l : Loc) (m cm : PySem.Str → Option Value),
    (∀ i ∈ ps, (X.lookup (vn i) = some .local ∨ X.lookup (vn i) = some .cell) ∧ i < 48) → VRs h P vs vals → Bd X P h l m cm →
    Bd X P h (bindP ps vs l) (bindL kindOf ((ps.map vn).zip vals) m) (bindC kindOf ((ps.map vn).zip vals) cm)
  | [], vs, vals, l, m, cm, _, _, b => by unfold bindP; exact b
  | p :: ps, [], [], l, m, cm, _, _, b => by unfold bindP; exact b
  | p :: ps, [], _ :: _, l, m, cm, _, r, _ => by unfold VRs at r; exact r.elim
  | p :: ps, _ :: _, [], l, m, cm, _, r, _ => by unfold VRs at r; exact r.elim
  | p :: ps, v :: vs, val :: vals, l, m, cm, hps, r, b => by
    unfold VRs at r
    obtain ⟨hp, hp48⟩ := hps p List.mem_cons_self
    have hi48 : ∀ i u, upd l p v i = some u → i < 48 := fun i u e => by
      rcases Nat.lt_or_ge i 48 with q | q
      · exact q
      · by_cases hi : i = p
        · omega
        · rw [upd_ne _ _ hi, b.small i q] at e; cases e
    have inj : ∀ i u, upd l p v i = some u → i ≠ p → vn i ≠ vn p := fun i u e hi q => hi (vn_inj (show i < vtab.length from hi48 i u e) (show p < vtab.length from hp48) q)
    show Bd X P h (bindP ps vs (upd l p v)) (bindL kindOf ((vn p, val) :: (ps.map vn).zip vals) m) (bindC kindOf ((vn p, val) :: (ps.map vn).zip vals) cm)
    unfold bindL bindC
    refine bind_ok hk ps vs vals _ _ _ (fun i hi => hps i (List.mem_cons_of_mem _ hi)) r.2 ⟨?_, ?_, ?_, ?_⟩
    · intro i u e hl
      by_cases hi : i = p
      · subst hi
        rw [upd_self] at e; cases e
        exact ⟨val, by rw [hk, if_pos hl]; simp, r.1⟩
      · have hne := inj i u e hi
        rw [upd_ne _ _ hi] at e
        obtain ⟨v', a, c⟩ := b.loc i u e hl
        refine ⟨v', ?_, c⟩
        split
        · show (if vn i = vn p then some val else m (vn i)) = some v'
          rw [if_neg hne]; exact a
        · exact a
    · intro i u e hl
      by_cases hi : i = p
      · subst hi
        rw [upd_self] at e; cases e
        exact ⟨val, by rw [hk, if_neg (by rw [hl]; intro q; cases q)]; simp, r.1⟩
      · have hne := inj i u e hi
        rw [upd_ne _ _ hi] at e
        obtain ⟨v', a, c⟩ := b.cell i u e hl
        refine ⟨v', ?_, c⟩
        split
        · exact a
        · show (if vn i = vn p then some val else cm (vn i)) = some v'
          rw [if_neg hne]; exact a
    · intro i u e
      by_cases hi : i = p
      · subst hi; rw [upd_self] at e; cases e; exact r.1.none_free
      · rw [upd_ne _ _ hi] at e; exact b.free i u e
    · intro i hi
      have : i ≠ p := by omega
      rw [upd_ne _ _ this]; exact b.small i hi
theorem call_def {k : Nat} {a : Addr} {ob : Obj} {fd : FuncData} (D : DefAt G k a ob fd) (ps : List Nat) {den : DS} (hok : defOk (namesAt k) ps = true)
    (hbind : ∀ vals : List Value, vals.length = ps.length → bindArgs fd ⟨vals, []⟩ = pure ((ps.map vn).zip vals)) (hco : (scopeAt k).isCoroutine = false) (hgen : (scopeAt k).isGenerator = false) (hkd : (scopeAt k).kind = .function)
    {A : Around} {P : Addr → Prop} {s : Shared} {Q : Value → Shared → Prop} {E : Value → Shared → Prop} {vs : List V} {vals : List Value} (hA : AOk (n + 1) A) (B : Base G s.heap) (fr : ∀ a, s.heap.get? a = none → P a) (r : VRs s.heap P vs vals) (hlen : vs.length = ps.length)
    (h : ∀ (env : Env) (h1 : Heap) (t1 : Nat) (m : PySem.Str → Option Value) (E' : Value → Shared → Prop), Fo G (namesAt k) env P s.heap none (bindP ps vs l0) m h1 → St env none none s.heap h1 → AOk n (A.deeper env) → env.code = fd.code →
      wpAny (model prog w) (A.deeper env) (execs (bodyAt k) env) (fun f s' => Q (match f with | .ret v => v | _ => .none) s') E' { s with heap := h1, toks := t1 }) : wpAny (model prog w) A (call (.ref a) vals) Q E s := by
  unfold defOk at hok
  simp only [Bool.and_eq_true, decide_eq_true_eq, List.all_eq_true] at hok
  obtain ⟨⟨hps, hnf⟩, hq⟩ := hok
  have hscope : fd.scope = scopeAt k := D.scope
  refine wpAny_call (codeAny_call_cells (by have := hA.depth; unfold recursionLimit; omega) (D.at' _ B) D.data B.lim (D.rec' _ B) D.body (hbind vals (by rw [← r.length, hlen])) D.clos ?_ ?_ (by rw [hscope]; exact hco) (by rw [hscope]; exact hgen) (by rw [hscope]; exact hkd))
  · intro x hx
    have hx1 : x.1 ∈ ps.map vn := (List.of_mem_zip (show (x.1, x.2) ∈ (ps.map vn).zip vals from hx)).1
    obtain ⟨i, hi, hxi⟩ := List.mem_map.mp hx1
    rw [hscope, ← hxi]
    rcases (hps i hi).1 with q | q
    · exact Or.inl q
    · refine Or.inr ⟨q, ?_⟩
      obtain ⟨c, e, _⟩ := cells_own (y := vn i) (lo := 0) (scopeAt k).names (s.heap.push default) [] (Nat.zero_le _) (mem_of_lookup q)
      rw [Heap.size_push] at e
      rw [e]; rfl
  · intro s1 C
    generalize hce : callEnvC fd s.heap.objs.size a = env at C ⊢
    have hloc : env.locals = s.heap.objs.size := by rw [← hce]; rfl
    have hcells : env.cells = cellsFrom (s.heap.objs.size + 1) (namesAt k) [] := by rw [← hce]; show cellsFrom _ fd.scope.names [] = _; rw [hscope]; rfl
    have hkind : ∀ x, env.kindOf x = (namesAt k).lookup x := fun x => by rw [← hce]; show fd.scope.names.lookup x = _; rw [hscope]; rfl
    obtain ⟨h1, t1, rfl⟩ := C.toInCall.same
    have keep : Kp s.heap h1 := C.toInCall.keep
    have hnew : ∀ a, s.heap.objs.size ≤ a → s.heap.get? a = none := fun a ha => by
      cases e : s.heap.get? a with
      | none => rfl
      | some o' => exact absurd (Heap.lt_size e) (Nat.not_lt.mpr ha)
    have bd := bind_ok (X := namesAt k) (P := P) (h := h1) (kindOf := env.kindOf) hkind ps vs vals l0 (fun _ => none) (fun _ => none) hps (r.keeps keep) ⟨(fun _ _ e => nomatch e), (fun _ _ e => nomatch e), (fun _ _ e => nomatch e), fun _ _ => rfl⟩
    have PO1 : ∀ {v : V} {v' : Value}, VR h1 P none v v' → VR h1 (PO P none) none v v' := fun r => VR.mono (fun a vs n p g => ⟨⟨p, by intro q; cases q⟩, g⟩) (fun a vs n p g => by cases p) _ r
    have cellOk : ∀ x, (namesAt k).lookup x = some .cell → ∃ c, env.cells.lookup x = some c := fun x hx => by
      obtain ⟨c, e, _⟩ := cells_own (y := x) (lo := 0) (namesAt k) (s.heap.push default) [] (Nat.zero_le _) (mem_of_lookup hx)
      rw [Heap.size_push] at e
      exact ⟨c, by rw [hcells]; exact e⟩
    have F : Fo G (namesAt k) env P s.heap none (bindP ps vs l0) (bindL env.kindOf ((ps.map vn).zip vals) fun _ => none) h1 := {
      kind := by rw [← hce]; show fd.scope.kind = _; rw [hscope]; exact hkd
      names := hkind
      noq := hq
      nofree := fun x e => hnf (x, .free) (mem_of_lookup e) rfl
      glob := by rw [← hce]; exact D.glob
      blt := by rw [← hce]; exact D.blt
      base₀ := B
      fresh₀ := fr
      keep := keep
      lfresh := by rw [hloc]; exact fresh_size _
      ns := C.toInCall.ns
      cells := cellOk
      cfresh := fun x c e => by
        have hab := C.above x c (mem_of_lookup e)
        refine ⟨hnew c ?_, Nat.ne_of_gt hab, _, C.cell x c e⟩
        rw [hloc] at hab
        exact Nat.le_of_lt hab
      apart := fun x y c e1 e2 => name_of_addr C.apart (mem_of_lookup e1) (mem_of_lookup e2)
      varL := fun i v e hl => let ⟨v', a, b⟩ := bd.loc i v e hl; ⟨v', a, PO1 b⟩
      varC := fun i v e hl => by
        obtain ⟨v', a, b⟩ := bd.cell i v e hl
        obtain ⟨c, hc⟩ := cellOk _ hl
        exact ⟨c, v', hc, a ▸ C.cell _ c hc, PO1 b⟩
      own := fun a e => by cases e
      one := fun i j xs ys _ _ e _ => by have := bd.free i _ e; cases this
      flag := fun _ => rfl }
    exact wpAny_mono (h env h1 t1 _ _ F (St.of_kp keep) (hA.deeper env) (by rw [← hce]; rfl)) (fun f s' q => q) fun _ _ e => e
theorem FnC_def {k : Nat} {a : Addr} {ob : Obj} {fd : FuncData} (D : DefAt G k a ob fd) (ps : List Nat) {den : DS} (hok : defOk (namesAt k) ps = true)
    (hbind : ∀ vals : List Value, vals.length = ps.length → bindArgs fd ⟨vals, []⟩ = pure ((ps.map vn).zip vals)) (hco : (scopeAt k).isCoroutine = false) (hgen : (scopeAt k).isGenerator = false) (hkd : (scopeAt k).kind = .function)
    (hb : ES prog w G n (namesAt k) (bodyAt k) den) : FnC prog w G (n + 1) (.ref a) (defS ps den) := by
  intro A P s Q E vs vals v hA B fr r hS h
  unfold defS at hS
  split at hS
  case isFalse => cases hS
  rename_i hlen
  split at hS
  case h_2 => cases hS
  rename_i v' hden
  cases hS
  refine call_def D ps (den := den) hok hbind hco hgen hkd hA B fr r hlen fun env h1 t1 m E' F st hA' _ => ?_
  exact hb _ env P s.heap none _ m _ _ E' _ hA' F hden fun h2 t2 v'' k2 r2 => h h2 t2 v'' k2 r2
end
end Mine
end
section
open PySem PySem.W PyProof.Rows
namespace Mine
noncomputable def nameAt (k : Nat) : PySem.Str := match stAt k with
  | .FunctionDef x _ _ _ _ _ _ _ _ _ => x
  | _ => PySem.Str.ofString "?"
noncomputable def isDef (k : Nat) : Bool := match stAt k with
  | .FunctionDef .. => true
  | _ => false
structure Laid (prog : Program) (w : World) (G : Gl) (adr : Nat → Addr) (ob : Nat → Obj) (fd : Nat → FuncData) (inS : Nat → Int → Bool) : Prop where
  defs : ∀ k, isDef k = true → DefAt G k (adr k) (ob k) (fd k)
  names : ∀ k, isDef k = true → G.mg (nameAt k) = some (.ref (adr k))
  len : NameOk G "len" (.builtin "len")
  chr : NameOk G "chr" (.builtin "chr")
  ord : NameOk G "ord" (.builtin "ord")
  range : NameOk G "range" (.type "range")
  enumerate : NameOk G "enumerate" (.type "enumerate")
  max : ∃ t, G.mg "CHAR_MAX" = some (.int 127 t)
  sets : ∀ k x pos v p, stAt k = .Assign [.Name x pos] v p → k ∈ [17, 20, 22, 24, 26] → ∃ a, G.mg x = some (.ref a) ∧ ∀ (A : Around) (s : Shared) (i : Int) (t : Tok) (Q : Value → Shared → Prop) (E : Value → Shared → Prop), Base G s.heap →
    (∀ tk, Q (.bool (inS k i)) { s with toks := tk }) → wpAny (model prog w) A (compareOp .In (.int i t) (.ref a)) Q E s
section
variable {prog : Program} {w : World} {G : Gl} {n : Nat} {X : Names} {adr : Nat → Addr} {ob : Nat → Obj} {fd : Nat → FuncData} {inS : Nat → Int → Bool}
theorem Laid.name (L : Laid prog w G adr ob fd inS) (k : Nat) (h : isDef k = true) : NameOk G (nameAt k) (.ref (adr k)) := .glob (L.names k h)
theorem Laid.ok (L : Laid prog w G adr ob fd inS) (k : Nat) (h : isDef k = true) : CallOk G (.ref (adr k)) := .fn _ _ _ (L.defs k h).at' (L.defs k h).data
noncomputable def dInSet (f : Int → Bool) (a : DE) : DE := fun l => match a l with
  | some (.int i) => some (.bool (f i))
  | _ => none
theorem ET_inSet (L : Laid prog w G adr ob fd inS) {l : Expr} {x : PySem.Str} {xp pos : Pos} {a : DE} (k : Nat) (hx : ∃ p' v p, stAt k = .Assign [.Name x p'] v p) (hk5 : k ∈ [17, 20, 22, 24, 26]) (hk : X.lookup x = some .globalImplicit) (hd : (x == ("__debug__" : PySem.Str)) = false)
    (ha : ET prog w G n X l a) (hm : behindInMarks .In (.Name x xp) = false) : ET prog w G n X (.Compare l [.In] [.Name x xp] pos) (dInSet (inS k) a) := by
  intro A env P o loc s Q E v hA O hd' h
  simp only [dInSet] at hd'
  split at hd' <;> cases hd'
  rename_i i hi
  obtain ⟨p', v', p, hst⟩ := hx
  obtain ⟨sa, hg, hin⟩ := L.sets k x p' v' p hst hk5
  refine wpAny_Compare1 (ha A env P o loc s _ _ _ hA O hi fun h1 t1 x' k1 r1 => ?_) hm
  obtain ⟨t, rfl⟩ := r1
  refine name_ok (.glob hg) (O.keeps k1) hk hd ?_
  exact hin A _ i t _ _ (O.base.keeps k1) fun tk => h h1 tk _ k1 rfl
theorem swap_eq {elt : Expr} {gens : List Comprehension} {scope : Scope} {pos tp : Pos} {t : PySem.Str} {line : Nat} {env : Env} : swapsWith (.ListComp elt gens scope pos) (some (.Name t tp)) line env =
    pure (env.blockKind == .function && env.kindOf t == some .local && tp.line == pos.line && !(scope.names.any fun (n, k) => n == t && (k == .local || k == .cell))) := rfl
theorem swap_no {elt : Expr} {gens : List Comprehension} {scope : Scope} {pos tp : Pos} {t : PySem.Str} {line : Nat} (h : X.lookup t = some .cell) : ∀ env : Env, env.scope.kind = .function → (∀ z, env.kindOf z = X.lookup z) → swapsWith (.ListComp elt gens scope pos) (some (.Name t tp)) line env = pure false := by
  intro env hk hn
  rw [swap_eq, hn, h, show (some NameKind.cell == some NameKind.local) = false from rfl]
  simp only [Bool.and_false, Bool.false_and]
theorem swap_yes {elt : Expr} {gens : List Comprehension} {scope : Scope} {pos tp : Pos} {t : PySem.Str} {line : Nat} (h : X.lookup t = some .local) (hl : (tp.line == pos.line && !(scope.names.any fun (n, k) => n == t && (k == .local || k == .cell))) = true) :
    ∀ env : Env, env.scope.kind = .function → (∀ z, env.kindOf z = X.lookup z) → swapsWith (.ListComp elt gens scope pos) (some (.Name t tp)) line env = pure true := by
  intro env hk hn
  rw [swap_eq, hn, h]
  have hb : env.blockKind = .function := by
    unfold Env.blockKind
    rw [hk]
    rfl
  rw [hb]
  simp only [beq_self_eq_true, Bool.true_and]
  rw [hl]
theorem bind_of {fd : FuncData} {k : Nat} {ps : List Nat} (h1 : fd.params = argsAt k) (h2 : fd.defaults = .none) (hb : ∀ (name qualname : PySem.Str) (body : FuncBody) (scope : Scope) (globals : Addr) (closure : List (PySem.Str × Addr)) (kwdefaults doc pyModule : Value) (annotations : Option Addr) (code closureTuple : Value) (builtins : Addr) (vals : List Value), vals.length = ps.length →
      bindArgs ⟨name, qualname, argsAt k, body, scope, globals, closure, .none, kwdefaults, doc, pyModule, annotations, code, closureTuple, builtins⟩ ⟨vals, []⟩ = pure ((ps.map vn).zip vals)) : ∀ vals : List Value, vals.length = ps.length → bindArgs fd ⟨vals, []⟩ = pure ((ps.map vn).zip vals) := by
  obtain ⟨name, qualname, params, body, scope, globals, closure, defaults, kwdefaults, doc, pyModule, annotations, code, closureTuple, builtins⟩ := fd
  simp only at h1 h2
  subst h1 h2
  exact hb _ _ _ _ _ _ _ _ _ _ _ _ _
theorem Laid.fn (L : Laid prog w G adr ob fd inS) (k : Nat) (ps : List Nat) {den : DS} (hdef : isDef k = true) (hok : defOk (namesAt k) ps = true)
    (hb : ∀ (name qualname : PySem.Str) (body : FuncBody) (scope : Scope) (globals : Addr) (closure : List (PySem.Str × Addr)) (kwdefaults doc pyModule : Value) (annotations : Option Addr) (code closureTuple : Value) (builtins : Addr) (vals : List Value), vals.length = ps.length →
      bindArgs ⟨name, qualname, argsAt k, body, scope, globals, closure, .none, kwdefaults, doc, pyModule, annotations, code, closureTuple, builtins⟩ ⟨vals, []⟩ = pure ((ps.map vn).zip vals))
    (hco : (scopeAt k).isCoroutine = false) (hgen : (scopeAt k).isGenerator = false) (hkd : (scopeAt k).kind = .function) (h : ES prog w G n (namesAt k) (bodyAt k) den) : FnC prog w G (n + 1) (.ref (adr k)) (defS ps den) :=
  FnC_def (L.defs k hdef) ps hok (bind_of (L.defs k hdef).params (L.defs k hdef).dflt hb) hco hgen hkd h
theorem vals1 {vals : List Value} (h : vals.length = 1) : ∃ a, vals = [a] := by
  match vals, h with
  | [a], _ => exact ⟨a, rfl⟩
theorem vals2 {vals : List Value} (h : vals.length = 2) : ∃ a b, vals = [a, b] := by
  match vals, h with
  | [a, b], _ => exact ⟨a, b, rfl⟩
theorem vals4 {vals : List Value} (h : vals.length = 4) : ∃ a b c d, vals = [a, b, c, d] := by
  match vals, h with
  | [a, b, c, d], _ => exact ⟨a, b, c, d, rfl⟩
end
end Mine
end
section
open PySem PySem.W PyProof.Rows
namespace Mine
section
variable {prog : Program} {w : World} {G : Gl} {n : Nat} {adr : Nat → Addr} {ob : Nat → Obj} {fd : Nat → FuncData} {inS : Nat → Int → Bool}
noncomputable def den1 : DS := (sCons (sRet (dCmp ltSV (dVar 0) (dVar 1))) sNil)
noncomputable def S1 : List V → Option V := defS [0, 1] (den1)
theorem es1 (L : Laid prog w G adr ob fd inS) : ES prog w G (n) (namesAt 1) (bodyAt 1) (den1) :=
  (ES_cons (E1_ret (ET_cmp (ET_var 0 _ rfl rfl rfl) (ET_var 1 _ rfl rfl rfl) op_lt rfl)) ES_nil)
theorem fn1 (L : Laid prog w G adr ob fd inS) : FnC prog w G (n + 1) (.ref (adr 1)) (S1) :=
  L.fn 1 [0, 1] rfl (by decide +kernel) (by intro _ _ _ _ _ _ _ _ _ _ _ _ _ vals h; obtain ⟨a, b, rfl⟩ := vals2 h; rfl) rfl rfl rfl (es1 L)
noncomputable def den2 : DS := (sCons (sRet (dCmp neV (dVar 0) (dVar 1))) sNil)
noncomputable def S2 : List V → Option V := defS [0, 1] (den2)
theorem es2 (L : Laid prog w G adr ob fd inS) : ES prog w G (n) (namesAt 2) (bodyAt 2) (den2) :=
  (ES_cons (E1_ret (ET_cmp (ET_var 0 _ rfl rfl rfl) (ET_var 1 _ rfl rfl rfl) op_ne rfl)) ES_nil)
theorem fn2 (L : Laid prog w G adr ob fd inS) : FnC prog w G (n + 1) (.ref (adr 2)) (S2) :=
  L.fn 2 [0, 1] rfl (by decide +kernel) (by intro _ _ _ _ _ _ _ _ _ _ _ _ _ vals h; obtain ⟨a, b, rfl⟩ := vals2 h; rfl) rfl rfl rfl (es2 L)
noncomputable def den3 : DS := (sCons (sRet (dCmp gtV (dVar 0) (dVar 1))) sNil)
noncomputable def S3 : List V → Option V := defS [0, 1] (den3)
theorem es3 (L : Laid prog w G adr ob fd inS) : ES prog w G (n) (namesAt 3) (bodyAt 3) (den3) :=
  (ES_cons (E1_ret (ET_cmp (ET_var 0 _ rfl rfl rfl) (ET_var 1 _ rfl rfl rfl) op_gt rfl)) ES_nil)
theorem fn3 (L : Laid prog w G adr ob fd inS) : FnC prog w G (n + 1) (.ref (adr 3)) (S3) :=
  L.fn 3 [0, 1] rfl (by decide +kernel) (by intro _ _ _ _ _ _ _ _ _ _ _ _ _ vals h; obtain ⟨a, b, rfl⟩ := vals2 h; rfl) rfl rfl rfl (es3 L)
noncomputable def den4 : DS := (sCons (sRet (dNot (dVar 0))) sNil)
noncomputable def S4 : List V → Option V := defS [0] (den4)
theorem es4 (L : Laid prog w G adr ob fd inS) : ES prog w G (n) (namesAt 4) (bodyAt 4) (den4) :=
  (ES_cons (E1_ret (ET_not (ET_var 0 _ rfl rfl rfl))) ES_nil)
theorem fn4 (L : Laid prog w G adr ob fd inS) : FnC prog w G (n + 1) (.ref (adr 4)) (S4) :=
  L.fn 4 [0] rfl (by decide +kernel) (by intro _ _ _ _ _ _ _ _ _ _ _ _ _ vals h; obtain ⟨a, rfl⟩ := vals1 h; rfl) rfl rfl rfl (es4 L)
noncomputable def den5 : DS := (sCons (sRet (dNeg (dVar 0))) sNil)
noncomputable def S5 : List V → Option V := defS [0] (den5)
theorem es5 (L : Laid prog w G adr ob fd inS) : ES prog w G (n) (namesAt 5) (bodyAt 5) (den5) :=
  (ES_cons (E1_ret (ET_neg (ET_var 0 _ rfl rfl rfl))) ES_nil)
theorem fn5 (L : Laid prog w G adr ob fd inS) : FnC prog w G (n + 1) (.ref (adr 5)) (S5) :=
  L.fn 5 [0] rfl (by decide +kernel) (by intro _ _ _ _ _ _ _ _ _ _ _ _ _ vals h; obtain ⟨a, rfl⟩ := vals1 h; rfl) rfl rfl rfl (es5 L)
noncomputable def den6 : DS := (sCons (sRet (dBin subV (dVar 0) (dVar 1))) sNil)
noncomputable def S6 : List V → Option V := defS [0, 1] (den6)
theorem es6 (L : Laid prog w G adr ob fd inS) : ES prog w G (n) (namesAt 6) (bodyAt 6) (den6) :=
  (ES_cons (E1_ret (ET_bin (ET_var 0 _ rfl rfl rfl) (ET_var 1 _ rfl rfl rfl) op_sub)) ES_nil)
theorem fn6 (L : Laid prog w G adr ob fd inS) : FnC prog w G (n + 1) (.ref (adr 6)) (S6) :=
  L.fn 6 [0, 1] rfl (by decide +kernel) (by intro _ _ _ _ _ _ _ _ _ _ _ _ _ vals h; obtain ⟨a, b, rfl⟩ := vals2 h; rfl) rfl rfl rfl (es6 L)
noncomputable def den7 : DS := (sCons (sRet (dCmp inV (dVar 1) (dVar 0))) sNil)
noncomputable def S7 : List V → Option V := defS [0, 1] (den7)
theorem es7 (L : Laid prog w G adr ob fd inS) : ES prog w G (n) (namesAt 7) (bodyAt 7) (den7) :=
  (ES_cons (E1_ret (ET_cmp (ET_var 1 _ rfl rfl rfl) (ET_var 0 _ rfl rfl rfl) op_in rfl)) ES_nil)
theorem fn7 (L : Laid prog w G adr ob fd inS) : FnC prog w G (n + 1) (.ref (adr 7)) (S7) :=
  L.fn 7 [0, 1] rfl (by decide +kernel) (by intro _ _ _ _ _ _ _ _ _ _ _ _ _ vals h; obtain ⟨a, b, rfl⟩ := vals2 h; rfl) rfl rfl rfl (es7 L)
noncomputable def den8 : DS := (sCons (sSet 2 (dInt 0)) (sCons (sFor 3 (iList (dVar 0)) (sCons (sIf (tOr (tCmp isV (dVar 3) (dVar 1)) (tCmp eqV (dVar 3) (dVar 1))) (sCons (sAug 2 addV (dInt 1)) sNil) sNil) sNil)) (sCons (sRet (dVar 2)) sNil)))
noncomputable def S8 : List V → Option V := defS [0, 1] (den8)
theorem es8 (L : Laid prog w G adr ob fd inS) : ES prog w G (n) (namesAt 8) (bodyAt 8) (den8) :=
  (ES_cons (E1_set 2 _ rfl rfl rfl ET_int (fun _ _ _ => rfl)) (ES_cons (E1_for 3 _ rfl rfl rfl (EI_list (ET_var 0 _ rfl rfl rfl)) (ES_cons (E1_if (TT_or (TT_cmp (ET_var 3 _ rfl rfl rfl) (ET_var 1 _ rfl rfl rfl) op_is rfl) (TT_cmp (ET_var 3 _ rfl rfl rfl) (ET_var 1 _ rfl rfl rfl) op_eq rfl)) (ES_cons (E1_aug 2 rfl rfl ET_int opI_add) ES_nil) ES_nil) ES_nil) (fun _ _ => rfl)) (ES_cons (E1_ret (ET_var 2 _ rfl rfl rfl)) ES_nil)))
theorem fn8 (L : Laid prog w G adr ob fd inS) : FnC prog w G (n + 1) (.ref (adr 8)) (S8) :=
  L.fn 8 [0, 1] rfl (by decide +kernel) (by intro _ _ _ _ _ _ _ _ _ _ _ _ _ vals h; obtain ⟨a, b, rfl⟩ := vals2 h; rfl) rfl rfl rfl (es8 L)
noncomputable def den9 : DS := (sCons (sAug 0 addV (dVar 1)) (sCons (sRet (dVar 0)) sNil))
noncomputable def S9 : List V → Option V := defS [0, 1] (den9)
theorem es9 (L : Laid prog w G adr ob fd inS) : ES prog w G (n) (namesAt 9) (bodyAt 9) (den9) :=
  (ES_cons (E1_aug 0 rfl rfl (ET_var 1 _ rfl rfl rfl) opI_add) (ES_cons (E1_ret (ET_var 0 _ rfl rfl rfl)) ES_nil))
theorem fn9 (L : Laid prog w G adr ob fd inS) : FnC prog w G (n + 1) (.ref (adr 9)) (S9) :=
  L.fn 9 [0, 1] rfl (by decide +kernel) (by intro _ _ _ _ _ _ _ _ _ _ _ _ _ vals h; obtain ⟨a, b, rfl⟩ := vals2 h; rfl) rfl rfl rfl (es9 L)
noncomputable def den10 : DS := (sCons (sAug 0 mulV (dVar 1)) (sCons (sRet (dVar 0)) sNil))
noncomputable def S10 : List V → Option V := defS [0, 1] (den10)
theorem es10 (L : Laid prog w G adr ob fd inS) : ES prog w G (n) (namesAt 10) (bodyAt 10) (den10) :=
  (ES_cons (E1_aug 0 rfl rfl (ET_var 1 _ rfl rfl rfl) opI_mul) (ES_cons (E1_ret (ET_var 0 _ rfl rfl rfl)) ES_nil))
theorem fn10 (L : Laid prog w G adr ob fd inS) : FnC prog w G (n + 1) (.ref (adr 10)) (S10) :=
  L.fn 10 [0, 1] rfl (by decide +kernel) (by intro _ _ _ _ _ _ _ _ _ _ _ _ _ vals h; obtain ⟨a, b, rfl⟩ := vals2 h; rfl) rfl rfl rfl (es10 L)
noncomputable def den11 : DS := (sCons (sAug 0 subI (dVar 1)) (sCons (sRet (dVar 0)) sNil))
noncomputable def S11 : List V → Option V := defS [0, 1] (den11)
theorem es11 (L : Laid prog w G adr ob fd inS) : ES prog w G (n) (namesAt 11) (bodyAt 11) (den11) :=
  (ES_cons (E1_aug 0 rfl rfl (ET_var 1 _ rfl rfl rfl) opI_sub) (ES_cons (E1_ret (ET_var 0 _ rfl rfl rfl)) ES_nil))
theorem fn11 (L : Laid prog w G adr ob fd inS) : FnC prog w G (n + 1) (.ref (adr 11)) (S11) :=
  L.fn 11 [0, 1] rfl (by decide +kernel) (by intro _ _ _ _ _ _ _ _ _ _ _ _ _ vals h; obtain ⟨a, b, rfl⟩ := vals2 h; rfl) rfl rfl rfl (es11 L)
noncomputable def den13 : DS := (sCons (sRet (dBin subV (dCmp gtV (dVar 0) (dVar 1)) (dCmp ltSV (dVar 0) (dVar 1)))) sNil)
noncomputable def S13 : List V → Option V := defS [0, 1] (den13)
theorem es13 (L : Laid prog w G adr ob fd inS) : ES prog w G (n) (namesAt 13) (bodyAt 13) (den13) :=
  (ES_cons (E1_ret (ET_bin (ET_cmp (ET_var 0 _ rfl rfl rfl) (ET_var 1 _ rfl rfl rfl) op_gt rfl) (ET_cmp (ET_var 0 _ rfl rfl rfl) (ET_var 1 _ rfl rfl rfl) op_lt rfl) op_sub)) ES_nil)
theorem fn13 (L : Laid prog w G adr ob fd inS) : FnC prog w G (n + 1) (.ref (adr 13)) (S13) :=
  L.fn 13 [0, 1] rfl (by decide +kernel) (by intro _ _ _ _ _ _ _ _ _ _ _ _ _ vals h; obtain ⟨a, b, rfl⟩ := vals2 h; rfl) rfl rfl rfl (es13 L)
end
end Mine
end
section
open PySem PySem.W PyProof.Rows
namespace Mine
section
variable {prog : Program} {w : World} {G : Gl} {n : Nat} {adr : Nat → Addr} {ob : Nat → Obj} {fd : Nat → FuncData} {inS : Nat → Int → Bool}
theorem iadd_body : ∃ p1 p2 p3 p4 p5, bodyAt 9 = [.AugAssign (.Name (vn 0) p1) .Add (.Name (vn 1) p2) p3, .Return (some (.Name (vn 0) p4)) p5] := ⟨_, _, _, _, _, rfl⟩
theorem app (L : Laid prog w G adr ob fd inS) : AppC prog w G (n + 1) (.ref (adr 9)) := by
  intro A s a b vs ws j k Q E hA B ga gb hsz h
  have D := L.defs 9 rfl
  have hbind := bind_of (ps := [0, 1]) D.params D.dflt (by intro _ _ _ _ _ _ _ _ _ _ _ _ _ vals h; obtain ⟨a, b, rfl⟩ := vals2 h; rfl) [.ref a, .ref b] rfl
  have hscope := D.scope
  have l0 : (scopeAt 9).names.lookup (vn 0) = some .local := rfl
  have l1 : (scopeAt 9).names.lookup (vn 1) = some .local := rfl
  have hkd : (scopeAt 9).kind = .function := rfl
  refine wpAny_call (codeAny_call_cells (by have := hA.depth; unfold recursionLimit; omega) (D.at' _ B) D.data B.lim (D.rec' _ B) D.body hbind D.clos ?_ ?_ (by rw [hscope]; rfl) (by rw [hscope]; rfl) (by rw [hscope]; rfl))
  · intro x hx
    rw [hscope]
    have hx : x ∈ [(vn 0, Value.ref a), (vn 1, Value.ref b)] := hx
    simp only [List.mem_cons, List.not_mem_nil, or_false] at hx
    rcases hx with rfl | rfl
    · exact Or.inl l0
    · exact Or.inl l1
  · intro s1 C
    generalize hce : callEnvC (fd 9) s.heap.objs.size (adr 9) = env at C ⊢
    have hk : env.scope.kind = .function := by rw [← hce]; show (fd 9).scope.kind = _; rw [hscope]; exact hkd
    have hloc : env.locals = s.heap.objs.size := by rw [← hce]; rfl
    have hkind : ∀ x, env.kindOf x = (scopeAt 9).names.lookup x := fun x => by rw [← hce]; show (fd 9).scope.names.lookup x = _; rw [hscope]
    obtain ⟨h1, t1, rfl⟩ := C.toInCall.same
    have keep : Kp s.heap h1 := C.toInCall.keep
    have k0 : env.kindOf (vn 0) = some .local := (hkind _).trans l0
    have k1 : env.kindOf (vn 1) = some .local := (hkind _).trans l1
    have ns := C.toInCall.ns
    have hm : ∀ x, bindL env.kindOf (([0, 1].map vn).zip [Value.ref a, Value.ref b]) (fun _ => none) x = if x = vn 1 then some (.ref b) else if x = vn 0 then some (.ref a) else none := fun x => by
      show bindL env.kindOf [(vn 0, Value.ref a), (vn 1, Value.ref b)] (fun _ => none) x = _
      simp only [bindL, if_pos k0, if_pos k1]
    have h01 : vn 0 ≠ vn 1 := fun q => absurd (vn_inj (by decide) (by decide) q) (by decide)
    obtain ⟨p1, p2, p3, p4, p5, hb⟩ := iadd_body
    rw [hb]
    have hne : a ≠ env.locals := fun q => by rw [q, hloc, fresh_size] at ga; cases ga
    refine wpAny_execs_cons (wpAny_AugAssign_Name (wpAny_loadName_local hk k0 ns (v := .ref a) (by rw [hm, if_neg h01]; simp) ?_))
    refine wpAny_Name (wpAny_loadName_local hk k1 ns (v := .ref b) (by rw [hm]; simp) ?_) (vn_ok 1).1
    refine inplace_list (s := { s with heap := h1, toks := t1 }) (keep _ _ ga) (keep _ _ gb) hsz fun h2 i g2 s2 => ?_
    have ns2 : h2.Ns env.locals _ := ns.sameBut s2 (Ne.symm hne)
    refine wpAny_storeName_local k0 ns2 (fun h3 ns3 s3 => ?_) (by rw [hk]; rfl)
    refine wpAny_execs_cons (wpAny_Return_some ?_)
    refine wpAny_Name (wpAny_loadName_local hk k0 ns3 (v := .ref a) (by simp) ?_) (vn_ok 0).1
    refine h h3 _ i (s3.extBut a _ hne g2) fun c ob hc e => ?_
    exact s3.extBut c ob (fun q => by rw [q, hloc, fresh_size] at e; cases e) (s2.extBut c ob hc (keep c ob e))
end
end Mine
end
section
open PySem PySem.W PyProof.Rows
namespace Mine
section
variable {prog : Program} {w : World} {G : Gl} {n : Nat} {adr : Nat → Addr} {ob : Nat → Obj} {fd : Nat → FuncData} {inS : Nat → Int → Bool}
noncomputable def den18 (inS : Nat → Int → Bool) : DS := (sCons (sRet (dInSet (inS 17) (dCall ordS (dCons (dVar 4) dNil)))) sNil)
noncomputable def S18 (inS : Nat → Int → Bool) : List V → Option V := defS [4] (den18 inS)
theorem es18 (L : Laid prog w G adr ob fd inS) : ES prog w G (n) (namesAt 18) (bodyAt 18) (den18 inS) :=
  (ES_cons (E1_ret (ET_inSet L 17 ⟨_, _, _, rfl⟩ (by decide) rfl rfl (ET_call fn_ord (.blt _) L.ord rfl rfl (ETs_cons (ET_var 4 _ rfl rfl rfl) ETs_nil (fun _ => rfl)) (fun _ => rfl) (fun _ => rfl)) rfl)) ES_nil)
theorem fn18 (L : Laid prog w G adr ob fd inS) : FnC prog w G (n + 1) (.ref (adr 18)) (S18 inS) :=
  L.fn 18 [4] rfl (by decide +kernel) (by intro _ _ _ _ _ _ _ _ _ _ _ _ _ vals h; obtain ⟨a, rfl⟩ := vals1 h; rfl) rfl rfl rfl (es18 L)
noncomputable def den19 : DS := (sCons (sSet 5 (dCall ordS (dCons (dVar 4) dNil))) (sCons (sIf (tCmp ltSV (dVar 5) (dInt 64976)) (sCons (sRet (dBool false)) sNil) sNil) (sCons (sIf (tCmp ltSV (dVar 5) (dInt 65008)) (sCons (sRet (dBool true)) sNil) sNil) (sCons (sRet (dInTup (dBin andV (dCall ordS (dCons (dVar 4) dNil)) (dInt 65535)) (dCons (dInt 65534) (dCons (dInt 65535) dNil)))) sNil))))
noncomputable def S19 : List V → Option V := defS [4] (den19)
theorem es19 (L : Laid prog w G adr ob fd inS) : ES prog w G (n) (namesAt 19) (bodyAt 19) (den19) :=
  (ES_cons (E1_set 5 _ rfl rfl rfl (ET_call fn_ord (.blt _) L.ord rfl rfl (ETs_cons (ET_var 4 _ rfl rfl rfl) ETs_nil (fun _ => rfl)) (fun _ => rfl) (fun _ => rfl)) (fun _ _ _ => rfl)) (ES_cons (E1_if (TT_cmp (ET_var 5 _ rfl rfl rfl) ET_int op_lt rfl) (ES_cons (E1_ret ET_bool) ES_nil) ES_nil) (ES_cons (E1_if (TT_cmp (ET_var 5 _ rfl rfl rfl) ET_int op_lt rfl) (ES_cons (E1_ret ET_bool) ES_nil) ES_nil) (ES_cons (E1_ret (ET_inTup (ET_bin (ET_call fn_ord (.blt _) L.ord rfl rfl (ETs_cons (ET_var 4 _ rfl rfl rfl) ETs_nil (fun _ => rfl)) (fun _ => rfl) (fun _ => rfl)) ET_int op_and) (ETs_cons ET_int (ETs_cons ET_int ETs_nil (fun _ => rfl)) (fun _ => rfl)) rfl)) ES_nil))))
theorem fn19 (L : Laid prog w G adr ob fd inS) : FnC prog w G (n + 1) (.ref (adr 19)) (S19) :=
  L.fn 19 [4] rfl (by decide +kernel) (by intro _ _ _ _ _ _ _ _ _ _ _ _ _ vals h; obtain ⟨a, rfl⟩ := vals1 h; rfl) rfl rfl rfl (es19 L)
noncomputable def den21 (inS : Nat → Int → Bool) : DS := (sCons (sRet (dInSet (inS 20) (dCall ordS (dCons (dVar 4) dNil)))) sNil)
noncomputable def S21 (inS : Nat → Int → Bool) : List V → Option V := defS [4] (den21 inS)
theorem es21 (L : Laid prog w G adr ob fd inS) : ES prog w G (n) (namesAt 21) (bodyAt 21) (den21 inS) :=
  (ES_cons (E1_ret (ET_inSet L 20 ⟨_, _, _, rfl⟩ (by decide) rfl rfl (ET_call fn_ord (.blt _) L.ord rfl rfl (ETs_cons (ET_var 4 _ rfl rfl rfl) ETs_nil (fun _ => rfl)) (fun _ => rfl) (fun _ => rfl)) rfl)) ES_nil)
theorem fn21 (L : Laid prog w G adr ob fd inS) : FnC prog w G (n + 1) (.ref (adr 21)) (S21 inS) :=
  L.fn 21 [4] rfl (by decide +kernel) (by intro _ _ _ _ _ _ _ _ _ _ _ _ _ vals h; obtain ⟨a, rfl⟩ := vals1 h; rfl) rfl rfl rfl (es21 L)
noncomputable def den23 (inS : Nat → Int → Bool) : DS := (sCons (sRet (dInSet (inS 22) (dCall ordS (dCons (dVar 4) dNil)))) sNil)
noncomputable def S23 (inS : Nat → Int → Bool) : List V → Option V := defS [4] (den23 inS)
theorem es23 (L : Laid prog w G adr ob fd inS) : ES prog w G (n) (namesAt 23) (bodyAt 23) (den23 inS) :=
  (ES_cons (E1_ret (ET_inSet L 22 ⟨_, _, _, rfl⟩ (by decide) rfl rfl (ET_call fn_ord (.blt _) L.ord rfl rfl (ETs_cons (ET_var 4 _ rfl rfl rfl) ETs_nil (fun _ => rfl)) (fun _ => rfl) (fun _ => rfl)) rfl)) ES_nil)
theorem fn23 (L : Laid prog w G adr ob fd inS) : FnC prog w G (n + 1) (.ref (adr 23)) (S23 inS) :=
  L.fn 23 [4] rfl (by decide +kernel) (by intro _ _ _ _ _ _ _ _ _ _ _ _ _ vals h; obtain ⟨a, rfl⟩ := vals1 h; rfl) rfl rfl rfl (es23 L)
noncomputable def den25 (inS : Nat → Int → Bool) : DS := (sCons (sRet (dInSet (inS 24) (dCall ordS (dCons (dVar 4) dNil)))) sNil)
noncomputable def S25 (inS : Nat → Int → Bool) : List V → Option V := defS [4] (den25 inS)
theorem es25 (L : Laid prog w G adr ob fd inS) : ES prog w G (n) (namesAt 25) (bodyAt 25) (den25 inS) :=
  (ES_cons (E1_ret (ET_inSet L 24 ⟨_, _, _, rfl⟩ (by decide) rfl rfl (ET_call fn_ord (.blt _) L.ord rfl rfl (ETs_cons (ET_var 4 _ rfl rfl rfl) ETs_nil (fun _ => rfl)) (fun _ => rfl) (fun _ => rfl)) rfl)) ES_nil)
theorem fn25 (L : Laid prog w G adr ob fd inS) : FnC prog w G (n + 1) (.ref (adr 25)) (S25 inS) :=
  L.fn 25 [4] rfl (by decide +kernel) (by intro _ _ _ _ _ _ _ _ _ _ _ _ _ vals h; obtain ⟨a, rfl⟩ := vals1 h; rfl) rfl rfl rfl (es25 L)
noncomputable def den27 (inS : Nat → Int → Bool) : DS := (sCons (sRet (dInSet (inS 26) (dCall ordS (dCons (dVar 4) dNil)))) sNil)
noncomputable def S27 (inS : Nat → Int → Bool) : List V → Option V := defS [4] (den27 inS)
theorem es27 (L : Laid prog w G adr ob fd inS) : ES prog w G (n) (namesAt 27) (bodyAt 27) (den27 inS) :=
  (ES_cons (E1_ret (ET_inSet L 26 ⟨_, _, _, rfl⟩ (by decide) rfl rfl (ET_call fn_ord (.blt _) L.ord rfl rfl (ETs_cons (ET_var 4 _ rfl rfl rfl) ETs_nil (fun _ => rfl)) (fun _ => rfl) (fun _ => rfl)) rfl)) ES_nil)
theorem fn27 (L : Laid prog w G adr ob fd inS) : FnC prog w G (n + 1) (.ref (adr 27)) (S27 inS) :=
  L.fn 27 [4] rfl (by decide +kernel) (by intro _ _ _ _ _ _ _ _ _ _ _ _ _ vals h; obtain ⟨a, rfl⟩ := vals1 h; rfl) rfl rfl rfl (es27 L)
noncomputable def den29 : DS := (sCons (sSet 7 (dList (dCons (dInt 2) (dCons (dInt 7) (dCons (dInt 0) (dCons (dInt 7) (dCons (dInt 3) (dCons (dInt 5) (dCons (dInt 27) dNil))))))))) (sCons (sRet (dComp 8 (iRange (dCons (dInt 7) dNil)) tAll (dIte (tCmp ltSV (dVar 8) (dCallL lenS (dConsL (dVar 6) dNil))) (dSub (dVar 6) (dVar 8)) (dSub (dVar 7) (dVar 8))))) sNil))
noncomputable def S29 : List V → Option V := defS [6] (den29)
theorem es29 (L : Laid prog w G adr ob fd inS) : ES prog w G (n) (namesAt 29) (bodyAt 29) (den29) :=
  (ES_cons (E1_set 7 _ rfl rfl rfl (ET_list (ETs_cons ET_int (ETs_cons ET_int (ETs_cons ET_int (ETs_cons ET_int (ETs_cons ET_int (ETs_cons ET_int (ETs_cons ET_int ETs_nil (fun _ => rfl)) (fun _ => rfl)) (fun _ => rfl)) (fun _ => rfl)) (fun _ => rfl)) (fun _ => rfl)) (fun _ => rfl))) (fun _ _ _ => rfl)) (ES_cons (E1_ret (ET_comp 8 rfl (by decide +kernel) rfl (EI_range L.range rfl rfl (ETs_cons ET_int ETs_nil (fun _ => rfl)) (fun _ => rfl) (fun _ => rfl)) TTs_nil (ET_ite (TT_cmp (ET_var 8 _ rfl rfl rfl) (ET_callL fn_len (.blt _) L.len rfl rfl (ETsL_cons (ET_var 6 _ rfl rfl rfl) ETsL_nil (fun _ => rfl)) (fun _ => rfl) (fun _ => rfl)) op_lt rfl) (ET_sub (ET_var 6 _ rfl rfl rfl) (ET_var 8 _ rfl rfl rfl) (fun _ _ => rfl)) (ET_sub (ET_var 7 _ rfl rfl rfl) (ET_var 8 _ rfl rfl rfl) (fun _ _ => rfl))) (fun _ _ => rfl))) ES_nil))
theorem fn29 (L : Laid prog w G adr ob fd inS) : FnC prog w G (n + 1) (.ref (adr 29)) (S29) :=
  L.fn 29 [6] rfl (by decide +kernel) (by intro _ _ _ _ _ _ _ _ _ _ _ _ _ vals h; obtain ⟨a, rfl⟩ := vals1 h; rfl) rfl rfl rfl (es29 L)
noncomputable def den30 (inS : Nat → Int → Bool) : DS := (sCons (sIf (tCmp eqV (dVar 9) (dInt 0)) (sCons (sRet (dCall (S18 inS) (dCons (dVar 10) dNil))) sNil) sNil) (sCons (sIf (tCmp eqV (dVar 9) (dInt 1)) (sCons (sRet (dCall S19 (dCons (dVar 10) dNil))) sNil) sNil) (sCons (sIf (tCmp eqV (dVar 9) (dInt 2)) (sCons (sRet (dCall (S21 inS) (dCons (dVar 10) dNil))) sNil) sNil) (sCons (sIf (tCmp eqV (dVar 9) (dInt 3)) (sCons (sRet (dCall (S23 inS) (dCons (dVar 10) dNil))) sNil) sNil) (sCons (sIf (tCmp eqV (dVar 9) (dInt 4)) (sCons (sRet (dCall (S25 inS) (dCons (dVar 10) dNil))) sNil) sNil) (sCons (sRet (dCall (S27 inS) (dCons (dVar 10) dNil))) sNil))))))
noncomputable def S30 (inS : Nat → Int → Bool) : List V → Option V := defS [9, 10] (den30 inS)
theorem es30 (L : Laid prog w G adr ob fd inS) : ES prog w G (n + 1) (namesAt 30) (bodyAt 30) (den30 inS) :=
  (ES_cons (E1_if (TT_cmp (ET_var 9 _ rfl rfl rfl) ET_int op_eq rfl) (ES_cons (E1_ret (ET_call (fn18 L) (L.ok 18 rfl) (L.name 18 rfl) rfl rfl (ETs_cons (ET_var 10 _ rfl rfl rfl) ETs_nil (fun _ => rfl)) (fun _ => rfl) (fun _ => rfl))) ES_nil) ES_nil) (ES_cons (E1_if (TT_cmp (ET_var 9 _ rfl rfl rfl) ET_int op_eq rfl) (ES_cons (E1_ret (ET_call (fn19 L) (L.ok 19 rfl) (L.name 19 rfl) rfl rfl (ETs_cons (ET_var 10 _ rfl rfl rfl) ETs_nil (fun _ => rfl)) (fun _ => rfl) (fun _ => rfl))) ES_nil) ES_nil) (ES_cons (E1_if (TT_cmp (ET_var 9 _ rfl rfl rfl) ET_int op_eq rfl) (ES_cons (E1_ret (ET_call (fn21 L) (L.ok 21 rfl) (L.name 21 rfl) rfl rfl (ETs_cons (ET_var 10 _ rfl rfl rfl) ETs_nil (fun _ => rfl)) (fun _ => rfl) (fun _ => rfl))) ES_nil) ES_nil) (ES_cons (E1_if (TT_cmp (ET_var 9 _ rfl rfl rfl) ET_int op_eq rfl) (ES_cons (E1_ret (ET_call (fn23 L) (L.ok 23 rfl) (L.name 23 rfl) rfl rfl (ETs_cons (ET_var 10 _ rfl rfl rfl) ETs_nil (fun _ => rfl)) (fun _ => rfl) (fun _ => rfl))) ES_nil) ES_nil) (ES_cons (E1_if (TT_cmp (ET_var 9 _ rfl rfl rfl) ET_int op_eq rfl) (ES_cons (E1_ret (ET_call (fn25 L) (L.ok 25 rfl) (L.name 25 rfl) rfl rfl (ETs_cons (ET_var 10 _ rfl rfl rfl) ETs_nil (fun _ => rfl)) (fun _ => rfl) (fun _ => rfl))) ES_nil) ES_nil) (ES_cons (E1_ret (ET_call (fn27 L) (L.ok 27 rfl) (L.name 27 rfl) rfl rfl (ETs_cons (ET_var 10 _ rfl rfl rfl) ETs_nil (fun _ => rfl)) (fun _ => rfl) (fun _ => rfl))) ES_nil))))))
theorem fn30 (L : Laid prog w G adr ob fd inS) : FnC prog w G (n + 2) (.ref (adr 30)) (S30 inS) :=
  L.fn 30 [9, 10] rfl (by decide +kernel) (by intro _ _ _ _ _ _ _ _ _ _ _ _ _ vals h; obtain ⟨a, b, rfl⟩ := vals2 h; rfl) rfl rfl rfl (es30 L)
noncomputable def den31 : DS := (sCons (sMk 12 (fList dNil)) (sCons (sFor 10 (iStr (dVar 11)) (sCons (sIf (tVal (dCall S4 (dCons (dCallL S7 (dConsL (dVar 12) (dConsL (dVar 10) dNil))) dNil))) (sCons (sApp 12 (dVar 10)) sNil) sNil) sNil)) (sCons (sRet (dVar 12)) sNil)))
noncomputable def S31 : List V → Option V := defS [11] (den31)
theorem es31 (L : Laid prog w G adr ob fd inS) : ES prog w G (n + 1) (namesAt 31) (bodyAt 31) (den31) :=
  (ES_cons (E1_mk 12 _ rfl rfl rfl (ETf_list ETs_nil) (fun _ _ _ => rfl)) (ES_cons (E1_for 10 _ rfl rfl rfl (EI_str (ET_var 11 _ rfl rfl rfl)) (ES_cons (E1_if (TT_val (ET_call (fn4 L) (L.ok 4 rfl) (L.name 4 rfl) rfl rfl (ETs_cons (ET_callL (fn7 L) (L.ok 7 rfl) (L.name 7 rfl) rfl rfl (ETsL_cons (ET_var 12 _ rfl rfl rfl) (ETsL_cons (ET_var 10 _ rfl rfl rfl) ETsL_nil (fun _ => rfl)) (fun _ => rfl)) (fun _ => rfl) (fun _ => rfl)) ETs_nil (fun _ => rfl)) (fun _ => rfl) (fun _ => rfl)) (fun _ => rfl)) (ES_cons (E1_app 12 _ rfl rfl rfl (ET_var 10 _ rfl rfl rfl) (app L) (L.ok 9 rfl) (L.name 9 rfl) rfl rfl (fun _ => rfl)) ES_nil) ES_nil) ES_nil) (fun _ _ => rfl)) (ES_cons (E1_ret (ET_var 12 _ rfl rfl rfl)) ES_nil)))
theorem fn31 (L : Laid prog w G adr ob fd inS) : FnC prog w G (n + 2) (.ref (adr 31)) (S31) :=
  L.fn 31 [11] rfl (by decide +kernel) (by intro _ _ _ _ _ _ _ _ _ _ _ _ _ vals h; obtain ⟨a, rfl⟩ := vals1 h; rfl) rfl rfl rfl (es31 L)
noncomputable def den33 : DS := (sCons (sMk 19 (fRep (.int 0) (dBin subV (dBin addV (dCallL lenS (dConsL (dVar 17) dNil)) (dCallL lenS (dConsL (dVar 18) dNil))) (dInt 1)))) (sCons (sFor 8 (iRange (dCons (dCallL lenS (dConsL (dVar 17) dNil)) dNil)) (sCons (sFor 20 (iRange (dCons (dCallL lenS (dConsL (dVar 18) dNil)) dNil)) (sCons (sPut 19 (dBin addV (dVar 8) (dVar 20)) (dCall S9 (dCons (dSub (dVar 19) (dBin addV (dVar 8) (dVar 20))) (dCons (dCall S10 (dCons (dSub (dVar 17) (dVar 8)) (dCons (dSub (dVar 18) (dVar 20)) dNil))) dNil)))) sNil)) sNil)) (sCons (sRet (dVar 19)) sNil)))
noncomputable def S33 : List V → Option V := defS [17, 18] (den33)
theorem es33 (L : Laid prog w G adr ob fd inS) : ES prog w G (n + 1) (namesAt 33) (bodyAt 33) (den33) :=
  (ES_cons (E1_mk 19 _ rfl rfl rfl (ETf_rep (ET_bin (ET_bin (ET_callL fn_len (.blt _) L.len rfl rfl (ETsL_cons (ET_var 17 _ rfl rfl rfl) ETsL_nil (fun _ => rfl)) (fun _ => rfl) (fun _ => rfl)) (ET_callL fn_len (.blt _) L.len rfl rfl (ETsL_cons (ET_var 18 _ rfl rfl rfl) ETsL_nil (fun _ => rfl)) (fun _ => rfl) (fun _ => rfl)) op_add) ET_int op_sub)) (fun _ _ _ => rfl)) (ES_cons (E1_for 8 _ rfl rfl rfl (EI_range L.range rfl rfl (ETs_cons (ET_callL fn_len (.blt _) L.len rfl rfl (ETsL_cons (ET_var 17 _ rfl rfl rfl) ETsL_nil (fun _ => rfl)) (fun _ => rfl) (fun _ => rfl)) ETs_nil (fun _ => rfl)) (fun _ => rfl) (fun _ => rfl)) (ES_cons (E1_for 20 _ rfl rfl rfl (EI_range L.range rfl rfl (ETs_cons (ET_callL fn_len (.blt _) L.len rfl rfl (ETsL_cons (ET_var 18 _ rfl rfl rfl) ETsL_nil (fun _ => rfl)) (fun _ => rfl) (fun _ => rfl)) ETs_nil (fun _ => rfl)) (fun _ => rfl) (fun _ => rfl)) (ES_cons (E1_put 19 _ rfl rfl rfl (ET_bin (ET_var 8 _ rfl rfl rfl) (ET_var 20 _ rfl rfl rfl) op_add) (ET_call (fn9 L) (L.ok 9 rfl) (L.name 9 rfl) rfl rfl (ETs_cons (ET_sub (ET_var 19 _ rfl rfl rfl) (ET_bin (ET_var 8 _ rfl rfl rfl) (ET_var 20 _ rfl rfl rfl) op_add) (fun _ _ => rfl)) (ETs_cons (ET_call (fn10 L) (L.ok 10 rfl) (L.name 10 rfl) rfl rfl (ETs_cons (ET_sub (ET_var 17 _ rfl rfl rfl) (ET_var 8 _ rfl rfl rfl) (fun _ _ => rfl)) (ETs_cons (ET_sub (ET_var 18 _ rfl rfl rfl) (ET_var 20 _ rfl rfl rfl) (fun _ _ => rfl)) ETs_nil (fun _ => rfl)) (fun _ => rfl)) (fun _ => rfl) (fun _ => rfl)) ETs_nil (fun _ => rfl)) (fun _ => rfl)) (fun _ => rfl) (fun _ => rfl)) (fun _ => rfl)) ES_nil) (fun _ _ => rfl)) ES_nil) (fun _ _ => rfl)) (ES_cons (E1_ret (ET_var 19 _ rfl rfl rfl)) ES_nil)))
theorem fn33 (L : Laid prog w G adr ob fd inS) : FnC prog w G (n + 2) (.ref (adr 33)) (S33) :=
  L.fn 33 [17, 18] rfl (by decide +kernel) (by intro _ _ _ _ _ _ _ _ _ _ _ _ _ vals h; obtain ⟨a, b, rfl⟩ := vals2 h; rfl) rfl rfl rfl (es33 L)
noncomputable def den34 : DS := (sCons (sSet 19 (dList (dCons (dInt 1) (dCons (dBin mulV (dNeg (dInt 4)) (dVar 22)) (dCons (dBin addV (dBin mulV (dBin mulV (dInt 4) (dVar 22)) (dVar 22)) (dBin mulV (dVar 23) (dVar 23))) dNil))))) (sCons (sFor 10 (iStr (dVar 11)) (sCons (sSet 19 (dCall S33 (dCons (dVar 19) (dCons (dList (dCons (dInt 1) (dCons (dCall S10 (dCons (dNeg (dInt 2)) (dCons (dCall S11 (dCons (dCall ordS (dCons (dVar 10) dNil)) (dCons (dVar 21) dNil))) dNil))) dNil))) dNil)))) sNil)) (sCons (sRet (dVar 19)) sNil)))
noncomputable def S34 : List V → Option V := defS [11, 21, 22, 23] (den34)
theorem es34 (L : Laid prog w G adr ob fd inS) : ES prog w G (n + 2) (namesAt 34) (bodyAt 34) (den34) :=
  (ES_cons (E1_set 19 _ rfl rfl rfl (ET_list (ETs_cons ET_int (ETs_cons (ET_bin (ET_neg ET_int) (ET_var 22 _ rfl rfl rfl) op_mul) (ETs_cons (ET_bin (ET_bin (ET_bin ET_int (ET_var 22 _ rfl rfl rfl) op_mul) (ET_var 22 _ rfl rfl rfl) op_mul) (ET_bin (ET_var 23 _ rfl rfl rfl) (ET_var 23 _ rfl rfl rfl) op_mul) op_add) ETs_nil (fun _ => rfl)) (fun _ => rfl)) (fun _ => rfl))) (fun _ _ _ => rfl)) (ES_cons (E1_for 10 _ rfl rfl rfl (EI_str (ET_var 11 _ rfl rfl rfl)) (ES_cons (E1_set 19 _ rfl rfl rfl (ET_call (fn33 L) (L.ok 33 rfl) (L.name 33 rfl) rfl rfl (ETs_cons (ET_var 19 _ rfl rfl rfl) (ETs_cons (ET_list (ETs_cons ET_int (ETs_cons (ET_call (fn10 L) (L.ok 10 rfl) (L.name 10 rfl) rfl rfl (ETs_cons (ET_neg ET_int) (ETs_cons (ET_call (fn11 L) (L.ok 11 rfl) (L.name 11 rfl) rfl rfl (ETs_cons (ET_call fn_ord (.blt _) L.ord rfl rfl (ETs_cons (ET_var 10 _ rfl rfl rfl) ETs_nil (fun _ => rfl)) (fun _ => rfl) (fun _ => rfl)) (ETs_cons (ET_var 21 _ rfl rfl rfl) ETs_nil (fun _ => rfl)) (fun _ => rfl)) (fun _ => rfl) (fun _ => rfl)) ETs_nil (fun _ => rfl)) (fun _ => rfl)) (fun _ => rfl) (fun _ => rfl)) ETs_nil (fun _ => rfl)) (fun _ => rfl))) ETs_nil (fun _ => rfl)) (fun _ => rfl)) (fun _ => rfl) (fun _ => rfl)) (fun _ _ _ => rfl)) ES_nil) (fun _ _ => rfl)) (ES_cons (E1_ret (ET_var 19 _ rfl rfl rfl)) ES_nil)))
theorem fn34 (L : Laid prog w G adr ob fd inS) : FnC prog w G (n + 3) (.ref (adr 34)) (S34) :=
  L.fn 34 [11, 21, 22, 23] rfl (by decide +kernel) (by intro _ _ _ _ _ _ _ _ _ _ _ _ _ vals h; obtain ⟨a, b, c, d, rfl⟩ := vals4 h; rfl) rfl rfl rfl (es34 L)
noncomputable def den35 : DS := (sCons (sSet 24 (dVar 17)) (sCons (sSet 25 (dIte (tVal (dCall S3 (dCons (dSub (dVar 18) (dInt 0)) (dCons (dInt 0) dNil)))) (dSub (dVar 18) (dInt 0)) (dCall S5 (dCons (dSub (dVar 18) (dInt 0)) dNil)))) (sCons (whileD (tCmp geV (dCallL lenS (dConsL (dVar 24) dNil)) (dCallL lenS (dConsL (dVar 18) dNil))) (sCons (sSet 26 (dIte (tVal (dCall S3 (dCons (dSub (dVar 18) (dInt 0)) (dCons (dInt 0) dNil)))) (dSub (dVar 24) (dInt 0)) (dCall S5 (dCons (dSub (dVar 24) (dInt 0)) dNil)))) (sCons (sSet 27 (dBin addL (dVar 18) (dBin mulL (dList (dCons (dInt 0) dNil)) (dBin subV (dCallL lenS (dConsL (dVar 24) dNil)) (dCallL lenS (dConsL (dVar 18) dNil)))))) (sCons (sSet 24 (dComp 8 (iRange (dCons (dInt 1) (dCons (dCallL lenS (dConsL (dVar 24) dNil)) dNil))) tAll (dCall S6 (dCons (dCall S10 (dCons (dVar 25) (dCons (dSub (dVar 24) (dVar 8)) dNil))) (dCons (dCall S10 (dCons (dVar 26) (dCons (dSub (dVar 27) (dVar 8)) dNil))) dNil))))) sNil))) 64) (sCons (whileD (tAnd (tCmp neL (dVar 24) (dList dNil)) (tCmp eqV (dSub (dVar 24) (dInt 0)) (dInt 0))) (sCons (sSet 24 (dCut (dVar 24) (some (dInt 1)) none)) sNil) 64) (sCons (sRet (dComp 28 (iList (dVar 24)) tAll (dCall S5 (dCons (dVar 28) dNil)))) sNil)))))
noncomputable def S35 : List V → Option V := defS [17, 18] (den35)
theorem es35 (L : Laid prog w G adr ob fd inS) : ES prog w G (n + 1) (namesAt 35) (bodyAt 35) (den35) :=
  (ES_cons (E1_set 24 _ rfl rfl rfl (ET_var 17 _ rfl rfl rfl) (fun _ _ _ => rfl)) (ES_cons (E1_set 25 _ rfl rfl rfl (ET_ite (TT_val (ET_call (fn3 L) (L.ok 3 rfl) (L.name 3 rfl) rfl rfl (ETs_cons (ET_sub (ET_var 18 _ rfl rfl rfl) ET_int (fun _ _ => rfl)) (ETs_cons ET_int ETs_nil (fun _ => rfl)) (fun _ => rfl)) (fun _ => rfl) (fun _ => rfl)) (fun _ => rfl)) (ET_sub (ET_var 18 _ rfl rfl rfl) ET_int (fun _ _ => rfl)) (ET_call (fn5 L) (L.ok 5 rfl) (L.name 5 rfl) rfl rfl (ETs_cons (ET_sub (ET_var 18 _ rfl rfl rfl) ET_int (fun _ _ => rfl)) ETs_nil (fun _ => rfl)) (fun _ => rfl) (fun _ => rfl))) (fun _ _ _ => rfl)) (ES_cons (E1_while 64 (TT_cmp (ET_callL fn_len (.blt _) L.len rfl rfl (ETsL_cons (ET_var 24 _ rfl rfl rfl) ETsL_nil (fun _ => rfl)) (fun _ => rfl) (fun _ => rfl)) (ET_callL fn_len (.blt _) L.len rfl rfl (ETsL_cons (ET_var 18 _ rfl rfl rfl) ETsL_nil (fun _ => rfl)) (fun _ => rfl) (fun _ => rfl)) op_ge rfl) (ES_cons (E1_set 26 _ rfl rfl rfl (ET_ite (TT_val (ET_call (fn3 L) (L.ok 3 rfl) (L.name 3 rfl) rfl rfl (ETs_cons (ET_sub (ET_var 18 _ rfl rfl rfl) ET_int (fun _ _ => rfl)) (ETs_cons ET_int ETs_nil (fun _ => rfl)) (fun _ => rfl)) (fun _ => rfl) (fun _ => rfl)) (fun _ => rfl)) (ET_sub (ET_var 24 _ rfl rfl rfl) ET_int (fun _ _ => rfl)) (ET_call (fn5 L) (L.ok 5 rfl) (L.name 5 rfl) rfl rfl (ETs_cons (ET_sub (ET_var 24 _ rfl rfl rfl) ET_int (fun _ _ => rfl)) ETs_nil (fun _ => rfl)) (fun _ => rfl) (fun _ => rfl))) (fun _ _ _ => rfl)) (ES_cons (E1_set 27 _ rfl rfl rfl (ET_bin (ET_var 18 _ rfl rfl rfl) (ET_bin (ET_list (ETs_cons ET_int ETs_nil (fun _ => rfl))) (ET_bin (ET_callL fn_len (.blt _) L.len rfl rfl (ETsL_cons (ET_var 24 _ rfl rfl rfl) ETsL_nil (fun _ => rfl)) (fun _ => rfl) (fun _ => rfl)) (ET_callL fn_len (.blt _) L.len rfl rfl (ETsL_cons (ET_var 18 _ rfl rfl rfl) ETsL_nil (fun _ => rfl)) (fun _ => rfl) (fun _ => rfl)) op_sub) op_mulL) op_addL) (fun _ _ _ => rfl)) (ES_cons (E1_set 24 _ rfl rfl rfl (ET_comp 8 rfl (by decide +kernel) rfl (EI_range L.range rfl rfl (ETs_cons ET_int (ETs_cons (ET_callL fn_len (.blt _) L.len rfl rfl (ETsL_cons (ET_var 24 _ rfl rfl rfl) ETsL_nil (fun _ => rfl)) (fun _ => rfl) (fun _ => rfl)) ETs_nil (fun _ => rfl)) (fun _ => rfl)) (fun _ => rfl) (fun _ => rfl)) TTs_nil (ET_call (fn6 L) (L.ok 6 rfl) (L.name 6 rfl) rfl rfl (ETs_cons (ET_call (fn10 L) (L.ok 10 rfl) (L.name 10 rfl) rfl rfl (ETs_cons (ET_var 25 _ rfl rfl rfl) (ETs_cons (ET_sub (ET_var 24 _ rfl rfl rfl) (ET_var 8 _ rfl rfl rfl) (fun _ _ => rfl)) ETs_nil (fun _ => rfl)) (fun _ => rfl)) (fun _ => rfl) (fun _ => rfl)) (ETs_cons (ET_call (fn10 L) (L.ok 10 rfl) (L.name 10 rfl) rfl rfl (ETs_cons (ET_var 26 _ rfl rfl rfl) (ETs_cons (ET_sub (ET_var 27 _ rfl rfl rfl) (ET_var 8 _ rfl rfl rfl) (fun _ _ => rfl)) ETs_nil (fun _ => rfl)) (fun _ => rfl)) (fun _ => rfl) (fun _ => rfl)) ETs_nil (fun _ => rfl)) (fun _ => rfl)) (fun _ => rfl) (fun _ => rfl)) (fun _ _ => rfl)) (swap_no rfl)) ES_nil)))) (ES_cons (E1_while 64 (TT_and (TT_cmp (ET_var 24 _ rfl rfl rfl) (ET_list ETs_nil) op_neL rfl) (TT_cmp (ET_sub (ET_var 24 _ rfl rfl rfl) ET_int (fun _ _ => rfl)) ET_int op_eq rfl)) (ES_cons (E1_set 24 _ rfl rfl rfl (ET_cut (ET_var 24 _ rfl rfl rfl) ET_int trivial) (fun _ _ _ => rfl)) ES_nil)) (ES_cons (E1_ret (ET_comp 28 rfl (by decide +kernel) rfl (EI_list (ET_var 24 _ rfl rfl rfl)) TTs_nil (ET_call (fn5 L) (L.ok 5 rfl) (L.name 5 rfl) rfl rfl (ETs_cons (ET_var 28 _ rfl rfl rfl) ETs_nil (fun _ => rfl)) (fun _ => rfl) (fun _ => rfl)) (fun _ _ => rfl))) ES_nil)))))
theorem fn35 (L : Laid prog w G adr ob fd inS) : FnC prog w G (n + 2) (.ref (adr 35)) (S35) :=
  L.fn 35 [17, 18] rfl (by decide +kernel) (by intro _ _ _ _ _ _ _ _ _ _ _ _ _ vals h; obtain ⟨a, b, rfl⟩ := vals2 h; rfl) rfl rfl rfl (es35 L)
noncomputable def den36 : DS := (sCons (sSet 29 (dBin subV (dCallL lenS (dConsL (dVar 19) dNil)) (dInt 1))) (sCons (sMk 30 (fList (dCons (dVar 19) (dCons (dComp 8 (iRange (dCons (dVar 29) dNil)) tAll (dCall S10 (dCons (dSub (dVar 19) (dVar 8)) (dCons (dBin subV (dVar 29) (dVar 8)) dNil)))) dNil)))) (sCons (sSet 24 (dCall S35 (dCons (dSub (dVar 30) (dInt 0)) (dCons (dSub (dVar 30) (dInt 1)) dNil)))) (sCons (whileD (tCmp neL (dVar 24) (dList dNil)) (sCons (sApp 30 (dVar 24)) (sCons (sSet 24 (dCall S35 (dCons (dSub (dVar 30) (dNeg (dInt 2))) (dCons (dSub (dVar 30) (dNeg (dInt 1))) dNil)))) sNil)) 64) (sCons (sRet (dVar 30)) sNil)))))
noncomputable def S36 : List V → Option V := defS [19] (den36)
theorem es36 (L : Laid prog w G adr ob fd inS) : ES prog w G (n + 2) (namesAt 36) (bodyAt 36) (den36) :=
  (ES_cons (E1_set 29 _ rfl rfl rfl (ET_bin (ET_callL fn_len (.blt _) L.len rfl rfl (ETsL_cons (ET_var 19 _ rfl rfl rfl) ETsL_nil (fun _ => rfl)) (fun _ => rfl) (fun _ => rfl)) ET_int op_sub) (fun _ _ _ => rfl)) (ES_cons (E1_mk 30 _ rfl rfl rfl (ETf_list (ETs_cons (ET_var 19 _ rfl rfl rfl) (ETs_cons (ET_comp 8 rfl (by decide +kernel) rfl (EI_range L.range rfl rfl (ETs_cons (ET_var 29 _ rfl rfl rfl) ETs_nil (fun _ => rfl)) (fun _ => rfl) (fun _ => rfl)) TTs_nil (ET_call (fn10 L) (L.ok 10 rfl) (L.name 10 rfl) rfl rfl (ETs_cons (ET_sub (ET_var 19 _ rfl rfl rfl) (ET_var 8 _ rfl rfl rfl) (fun _ _ => rfl)) (ETs_cons (ET_bin (ET_var 29 _ rfl rfl rfl) (ET_var 8 _ rfl rfl rfl) op_sub) ETs_nil (fun _ => rfl)) (fun _ => rfl)) (fun _ => rfl) (fun _ => rfl)) (fun _ _ => rfl)) ETs_nil (fun _ => rfl)) (fun _ => rfl))) (fun _ _ _ => rfl)) (ES_cons (E1_set 24 _ rfl rfl rfl (ET_call (fn35 L) (L.ok 35 rfl) (L.name 35 rfl) rfl rfl (ETs_cons (ET_sub (ET_var 30 _ rfl rfl rfl) ET_int (fun _ _ => rfl)) (ETs_cons (ET_sub (ET_var 30 _ rfl rfl rfl) ET_int (fun _ _ => rfl)) ETs_nil (fun _ => rfl)) (fun _ => rfl)) (fun _ => rfl) (fun _ => rfl)) (fun _ _ _ => rfl)) (ES_cons (E1_while 64 (TT_cmp (ET_var 24 _ rfl rfl rfl) (ET_list ETs_nil) op_neL rfl) (ES_cons (E1_app 30 _ rfl rfl rfl (ET_var 24 _ rfl rfl rfl) (app L) (L.ok 9 rfl) (L.name 9 rfl) rfl rfl (fun _ => rfl)) (ES_cons (E1_set 24 _ rfl rfl rfl (ET_call (fn35 L) (L.ok 35 rfl) (L.name 35 rfl) rfl rfl (ETs_cons (ET_sub (ET_var 30 _ rfl rfl rfl) (ET_neg ET_int) (fun _ _ => rfl)) (ETs_cons (ET_sub (ET_var 30 _ rfl rfl rfl) (ET_neg ET_int) (fun _ _ => rfl)) ETs_nil (fun _ => rfl)) (fun _ => rfl)) (fun _ => rfl) (fun _ => rfl)) (fun _ _ _ => rfl)) ES_nil))) (ES_cons (E1_ret (ET_var 30 _ rfl rfl rfl)) ES_nil)))))
theorem fn36 (L : Laid prog w G adr ob fd inS) : FnC prog w G (n + 3) (.ref (adr 36)) (S36) :=
  L.fn 36 [19] rfl (by decide +kernel) (by intro _ _ _ _ _ _ _ _ _ _ _ _ _ vals h; obtain ⟨a, rfl⟩ := vals1 h; rfl) rfl rfl rfl (es36 L)
noncomputable def den37 : DS := (sCons (sMk 31 (fList dNil)) (sCons (sFor 32 (iList (dVar 30)) (sCons (sSet 33 (dInt 0)) (sCons (sFor 28 (iList (dVar 32)) (sCons (sSet 33 (dCall S9 (dCons (dCall S10 (dCons (dVar 33) (dCons (dVar 15) dNil))) (dCons (dVar 28) dNil)))) sNil)) (sCons (sIf (tVal (dCall S2 (dCons (dVar 33) (dCons (dInt 0) dNil)))) (sCons (sApp 31 (dCall S3 (dCons (dVar 33) (dCons (dInt 0) dNil)))) sNil) sNil) sNil)))) (sCons (sRet (dCallL lenS (dConsL (dComp 8 (iRange (dCons (dInt 1) (dCons (dCallL lenS (dConsL (dVar 31) dNil)) dNil))) (tVal (dCall S2 (dCons (dSub (dVar 31) (dBin subV (dVar 8) (dInt 1))) (dCons (dSub (dVar 31) (dVar 8)) dNil)))) (dVar 8)) dNil))) sNil)))
noncomputable def S37 : List V → Option V := defS [30, 15] (den37)
theorem es37 (L : Laid prog w G adr ob fd inS) : ES prog w G (n + 1) (namesAt 37) (bodyAt 37) (den37) :=
  (ES_cons (E1_mk 31 _ rfl rfl rfl (ETf_list ETs_nil) (fun _ _ _ => rfl)) (ES_cons (E1_for 32 _ rfl rfl rfl (EI_list (ET_var 30 _ rfl rfl rfl)) (ES_cons (E1_set 33 _ rfl rfl rfl ET_int (fun _ _ _ => rfl)) (ES_cons (E1_for 28 _ rfl rfl rfl (EI_list (ET_var 32 _ rfl rfl rfl)) (ES_cons (E1_set 33 _ rfl rfl rfl (ET_call (fn9 L) (L.ok 9 rfl) (L.name 9 rfl) rfl rfl (ETs_cons (ET_call (fn10 L) (L.ok 10 rfl) (L.name 10 rfl) rfl rfl (ETs_cons (ET_var 33 _ rfl rfl rfl) (ETs_cons (ET_var 15 _ rfl rfl rfl) ETs_nil (fun _ => rfl)) (fun _ => rfl)) (fun _ => rfl) (fun _ => rfl)) (ETs_cons (ET_var 28 _ rfl rfl rfl) ETs_nil (fun _ => rfl)) (fun _ => rfl)) (fun _ => rfl) (fun _ => rfl)) (fun _ _ _ => rfl)) ES_nil) (fun _ _ => rfl)) (ES_cons (E1_if (TT_val (ET_call (fn2 L) (L.ok 2 rfl) (L.name 2 rfl) rfl rfl (ETs_cons (ET_var 33 _ rfl rfl rfl) (ETs_cons ET_int ETs_nil (fun _ => rfl)) (fun _ => rfl)) (fun _ => rfl) (fun _ => rfl)) (fun _ => rfl)) (ES_cons (E1_app 31 _ rfl rfl rfl (ET_call (fn3 L) (L.ok 3 rfl) (L.name 3 rfl) rfl rfl (ETs_cons (ET_var 33 _ rfl rfl rfl) (ETs_cons ET_int ETs_nil (fun _ => rfl)) (fun _ => rfl)) (fun _ => rfl) (fun _ => rfl)) (app L) (L.ok 9 rfl) (L.name 9 rfl) rfl rfl (fun _ => rfl)) ES_nil) ES_nil) ES_nil))) (fun _ _ => rfl)) (ES_cons (E1_ret (ET_callL fn_len (.blt _) L.len rfl rfl (ETsL_cons (ET_comp 8 rfl (by decide +kernel) rfl (EI_range L.range rfl rfl (ETs_cons ET_int (ETs_cons (ET_callL fn_len (.blt _) L.len rfl rfl (ETsL_cons (ET_var 31 _ rfl rfl rfl) ETsL_nil (fun _ => rfl)) (fun _ => rfl) (fun _ => rfl)) ETs_nil (fun _ => rfl)) (fun _ => rfl)) (fun _ => rfl) (fun _ => rfl)) (TTs_one (TT_val (ET_call (fn2 L) (L.ok 2 rfl) (L.name 2 rfl) rfl rfl (ETs_cons (ET_sub (ET_var 31 _ rfl rfl rfl) (ET_bin (ET_var 8 _ rfl rfl rfl) ET_int op_sub) (fun _ _ => rfl)) (ETs_cons (ET_sub (ET_var 31 _ rfl rfl rfl) (ET_var 8 _ rfl rfl rfl) (fun _ _ => rfl)) ETs_nil (fun _ => rfl)) (fun _ => rfl)) (fun _ => rfl) (fun _ => rfl)) (fun _ => rfl))) (ET_var 8 _ rfl rfl rfl) (fun _ _ => rfl)) ETsL_nil (fun _ => rfl)) (fun _ => rfl) (fun _ => rfl))) ES_nil)))
theorem fn37 (L : Laid prog w G adr ob fd inS) : FnC prog w G (n + 2) (.ref (adr 37)) (S37) :=
  L.fn 37 [30, 15] rfl (by decide +kernel) (by intro _ _ _ _ _ _ _ _ _ _ _ _ _ vals h; obtain ⟨a, b, rfl⟩ := vals2 h; rfl) rfl rfl rfl (es37 L)
end
end Mine
end
section
open PySem PySem.W PyProof.Rows
namespace Mine
section
variable {prog : Program} {w : World} {G : Gl} {n : Nat} {adr : Nat → Addr} {ob : Nat → Obj} {fd : Nat → FuncData} {inS : Nat → Int → Bool}
noncomputable def denPre : DS := (sCons (sSet 34 (dCall S29 (dCons (dVar 6) dNil))) (sCons (sSet 9 (dBin modV (dSub (dVar 34) (dInt 0)) (dInt 6))) (sCons (sSet 35 (dBin modV (dBin fdivV (dSub (dVar 34) (dInt 0)) (dInt 6)) (dInt 3))) (sCons (sSet 21 (dSub (dList (dCons (dInt 65024) (dCons (dInt 64976) (dCons (dInt 65529) (dCons (dInt 12272) (dCons (dInt 8298) (dCons (dInt 917536) dNil))))))) (dVar 9))) (sCons (sSet 36 (dSub (dList (dCons (dInt 16) (dCons (dInt 32) (dCons (dInt 5) (dCons (dInt 12) (dCons (dInt 6) (dCons (dInt 96) dNil))))))) (dVar 9))) (sCons (sSet 37 (dComp 28 (iList (dCut (dVar 34) (some (dInt 1)) (some (dInt 6)))) tAll (dBin subV (dBin modV (dVar 28) (dBin addV (dVar 36) (dInt 6))) (dInt 3)))) (sCons (sSet 38 (dEnum 8 15 (dCut (dVar 37) none (some (dInt 4))) (tCmp notInV (dVar 15) (dCut (dVar 37) none (some (dVar 8)))) (dVar 15))) (sCons (sSet 11 (dJoin (PySem.Str.ofString "") (dComp 15 (iList (dCut (dVar 37) none (some (dInt 4)))) tAll (dCall chrS (dCons (dBin addV (dVar 21) (dVar 15)) dNil))))) (sCons (sSet 12 (dCall S31 (dCons (dVar 11) dNil))) (sCons (sSet 30 (dCall S36 (dCons (dCall S34 (dCons (dVar 11) (dCons (dVar 21) (dCons (dSub (dVar 37) (dInt 4)) (dCons (dBin addV (dBin modV (dBin fdivV (dSub (dVar 34) (dInt 5)) (dInt 100)) (dInt 9)) (dInt 1)) dNil))))) dNil))) (sCons (sSet 39 (dBin addV (dBin modV (dSub (dVar 34) (dInt 6)) (dInt 12)) (dInt 1))) (sCons (sSet 40 (dBin addV (dBin modV (dBin fdivV (dSub (dVar 34) (dInt 6)) (dInt 12)) (dInt 12)) (dInt 1))) sNil))))))))))))
noncomputable def denPost (inS : Nat → Int → Bool) : DS := (sCons (sIf (tCmp neL (dVar 14) (dComp 8 (iRange (dCons (dIte (tCmp eqV (dVar 35) (dInt 0)) (dInt 4) (dInt 2)) dNil)) tAll (dBin addV (dBin subV (dVar 39) (dInt 4)) (dBin mulV (dVar 40) (dVar 8))))) (sCons (sRet (dBool false)) sNil) sNil) (sCons (sSet 42 (dComp 41 (iList (dVar 14)) tAll (dCallL lenS (dConsL (dComp 15 (iList (dVar 38)) (tCmp leV (dVar 15) (dVar 41)) (dVar 15)) dNil)))) (sCons (sSet 43 (dComp 41 (iList (dVar 14)) tAll (dCallL lenS (dConsL (dComp 10 (iList (dVar 12)) (tVal (dCall S1 (dCons (dCall S13 (dCons (dVar 10) (dCons (dCall chrS (dCons (dBin addV (dVar 21) (dVar 41)) dNil)) dNil))) (dCons (dInt 1) dNil)))) (dVar 10)) dNil)))) (sCons (sSet 44 (dCall S37 (dCons (dVar 30) (dCons (dNeg (dInt 7)) dNil)))) (sCons (sSet 45 (dComp 41 (iList (dVar 14)) tAll (dCall S6 (dCons (dVar 44) (dCons (dCall S37 (dCons (dVar 30) (dCons (dBin addV (dBin mulV (dInt 2) (dVar 41)) (dInt 1)) dNil))) dNil))))) (sCons (sIf (tOr (tCmp neL (dVar 43) (dVar 42)) (tCmp neL (dVar 45) (dVar 42))) (sCons (sRet (dBool false)) sNil) sNil) (sCons (sSet 46 (dComp 10 (iList (dVar 12)) tAll (dCall (S30 inS) (dCons (dVar 9) (dCons (dVar 10) dNil))))) (sCons (sIf (tCmp neL (dVar 46) (dComp 15 (iList (dVar 38)) tAll (dChain leV ltSV (dInt 0) (dVar 15) (dVar 36)))) (sCons (sRet (dBool false)) sNil) sNil) (sCons (sSet 47 (dCall S6 (dCons (dCall S37 (dCons (dVar 30) (dCons (dNeg (dInt 1)) dNil))) (dCons (dCall S37 (dCons (dVar 30) (dCons (dBin subV (dBin mulV (dInt 2) (dVar 36)) (dInt 1)) dNil))) dNil)))) (sCons (sRet (dAnd (dCmp eqV (dVar 47) (dCall S8 (dCons (dVar 46) (dCons (dBool true) dNil)))) (dCmp eqV (dCallL lenS (dConsL (dSub (dVar 30) (dNeg (dInt 1))) dNil)) (dBin subV (dInt 5) (dCallL lenS (dConsL (dVar 38) dNil)))))) sNil))))))))))
noncomputable def dArg : DE := (dBin addL (dList (dCons (dVar 39) (dCons (dVar 40) dNil))) (dSub (dList (dCons (dList (dCons (dInt 0) (dCons (dInt 5) dNil))) (dCons (dList (dCons (dInt 127) (dCons (dInt 5) dNil))) (dCons (dList dNil) dNil)))) (dVar 35)))
noncomputable def markArg : Expr := match (bodyAt 38)[12]? with
  | some (Stmt.Assign _ (Expr.Call _ [e] _ _) _) => e
  | _ => default
set_option maxHeartbeats 4000000 in
theorem es38pre (L : Laid prog w G adr ob fd inS) : ES prog w G (n + 3) (namesAt 38) ((bodyAt 38).take 12) denPre :=
  (ES_cons (E1_set 34 _ rfl rfl rfl (ET_call (fn29 L) (L.ok 29 rfl) (L.name 29 rfl) rfl rfl (ETs_cons (ET_var 6 _ rfl rfl rfl) ETs_nil (fun _ => rfl)) (fun _ => rfl) (fun _ => rfl)) (fun _ _ _ => rfl)) (ES_cons (E1_set 9 _ rfl rfl rfl (ET_bin (ET_sub (ET_var 34 _ rfl rfl rfl) ET_int (fun _ _ => rfl)) ET_int op_mod) (fun _ _ _ => rfl)) (ES_cons (E1_set 35 _ rfl rfl rfl (ET_bin (ET_bin (ET_sub (ET_var 34 _ rfl rfl rfl) ET_int (fun _ _ => rfl)) ET_int op_fdiv) ET_int op_mod) (fun _ _ _ => rfl)) (ES_cons (E1_set 21 _ rfl rfl rfl (ET_sub (ET_list (ETs_cons ET_int (ETs_cons ET_int (ETs_cons ET_int (ETs_cons ET_int (ETs_cons ET_int (ETs_cons ET_int ETs_nil (fun _ => rfl)) (fun _ => rfl)) (fun _ => rfl)) (fun _ => rfl)) (fun _ => rfl)) (fun _ => rfl))) (ET_var 9 _ rfl rfl rfl) (fun _ _ => rfl)) (fun _ _ _ => rfl)) (ES_cons (E1_set 36 _ rfl rfl rfl (ET_sub (ET_list (ETs_cons ET_int (ETs_cons ET_int (ETs_cons ET_int (ETs_cons ET_int (ETs_cons ET_int (ETs_cons ET_int ETs_nil (fun _ => rfl)) (fun _ => rfl)) (fun _ => rfl)) (fun _ => rfl)) (fun _ => rfl)) (fun _ => rfl))) (ET_var 9 _ rfl rfl rfl) (fun _ _ => rfl)) (fun _ _ _ => rfl)) (ES_cons (E1_set 37 _ rfl rfl rfl (ET_comp 28 rfl (by decide +kernel) rfl (EI_list (ET_cut (ET_var 34 _ rfl rfl rfl) ET_int ET_int)) TTs_nil (ET_bin (ET_bin (ET_var 28 _ rfl rfl rfl) (ET_bin (ET_var 36 _ rfl rfl rfl) ET_int op_add) op_mod) ET_int op_sub) (fun _ _ => rfl)) (swap_no rfl)) (ES_cons (E1_set 38 _ rfl rfl rfl (ET_compEnum 8 15 rfl rfl (by decide) (by decide +kernel) rfl rfl rfl L.enumerate rfl rfl (fun _ => rfl) (ET_cut (ET_var 37 _ rfl rfl rfl) trivial ET_int) (TTs_one (TT_cmp (ET_var 15 _ rfl rfl rfl) (ET_cut (ET_var 37 _ rfl rfl rfl) trivial (ET_var 8 _ rfl rfl rfl)) op_notIn rfl)) (ET_var 15 _ rfl rfl rfl)) (swap_no rfl)) (ES_cons (E1_set 11 _ rfl rfl rfl (ET_join (ET_comp 15 rfl (by decide +kernel) rfl (EI_list (ET_cut (ET_var 37 _ rfl rfl rfl) trivial ET_int)) TTs_nil (ET_call fn_chr (.blt _) L.chr rfl rfl (ETs_cons (ET_bin (ET_var 21 _ rfl rfl rfl) (ET_var 15 _ rfl rfl rfl) op_add) ETs_nil (fun _ => rfl)) (fun _ => rfl) (fun _ => rfl)) (fun _ _ => rfl)) (by decide) (fun _ => rfl) (fun _ => ⟨_, rfl⟩)) (fun _ _ _ => rfl)) (ES_cons (E1_set 12 _ rfl rfl rfl (ET_call (fn31 L) (L.ok 31 rfl) (L.name 31 rfl) rfl rfl (ETs_cons (ET_var 11 _ rfl rfl rfl) ETs_nil (fun _ => rfl)) (fun _ => rfl) (fun _ => rfl)) (fun _ _ _ => rfl)) (ES_cons (E1_set 30 _ rfl rfl rfl (ET_call (fn36 L) (L.ok 36 rfl) (L.name 36 rfl) rfl rfl (ETs_cons (ET_call (fn34 L) (L.ok 34 rfl) (L.name 34 rfl) rfl rfl (ETs_cons (ET_var 11 _ rfl rfl rfl) (ETs_cons (ET_var 21 _ rfl rfl rfl) (ETs_cons (ET_sub (ET_var 37 _ rfl rfl rfl) ET_int (fun _ _ => rfl)) (ETs_cons (ET_bin (ET_bin (ET_bin (ET_sub (ET_var 34 _ rfl rfl rfl) ET_int (fun _ _ => rfl)) ET_int op_fdiv) ET_int op_mod) ET_int op_add) ETs_nil (fun _ => rfl)) (fun _ => rfl)) (fun _ => rfl)) (fun _ => rfl)) (fun _ => rfl) (fun _ => rfl)) ETs_nil (fun _ => rfl)) (fun _ => rfl) (fun _ => rfl)) (fun _ _ _ => rfl)) (ES_cons (E1_set 39 _ rfl rfl rfl (ET_bin (ET_bin (ET_sub (ET_var 34 _ rfl rfl rfl) ET_int (fun _ _ => rfl)) ET_int op_mod) ET_int op_add) (fun _ _ _ => rfl)) (ES_cons (E1_set 40 _ rfl rfl rfl (ET_bin (ET_bin (ET_bin (ET_sub (ET_var 34 _ rfl rfl rfl) ET_int (fun _ _ => rfl)) ET_int op_fdiv) ET_int op_mod) ET_int op_add) (fun _ _ _ => rfl)) ES_nil))))))))))))
set_option maxHeartbeats 4000000 in
theorem es38post (L : Laid prog w G adr ob fd inS) : ES prog w G (n + 3) (namesAt 38) ((bodyAt 38).drop 13) (denPost inS) :=
  (ES_cons (E1_if (TT_cmp (ET_var 14 _ rfl rfl rfl) (ET_comp 8 rfl (by decide +kernel) rfl (EI_range L.range rfl rfl (ETs_cons (ET_ite (TT_cmp (ET_var 35 _ rfl rfl rfl) ET_int op_eq rfl) ET_int ET_int) ETs_nil (fun _ => rfl)) (fun _ => rfl) (fun _ => rfl)) TTs_nil (ET_bin (ET_bin (ET_var 39 _ rfl rfl rfl) ET_int op_sub) (ET_bin (ET_var 40 _ rfl rfl rfl) (ET_var 8 _ rfl rfl rfl) op_mul) op_add) (fun _ _ => rfl)) op_neL rfl) (ES_cons (E1_ret ET_bool) ES_nil) ES_nil) (ES_cons (E1_setComp 41 42 _ rfl rfl rfl rfl (by decide +kernel) rfl (EI_list (ET_var 14 _ rfl rfl rfl)) TTs_nil (ET_callL fn_len (.blt _) L.len rfl rfl (ETsL_cons (ET_comp 15 rfl (by decide +kernel) rfl (EI_list (ET_var 38 _ rfl rfl rfl)) (TTs_one (TT_cmp (ET_var 15 _ rfl rfl rfl) (ET_var 41 _ rfl rfl rfl) op_le rfl)) (ET_var 15 _ rfl rfl rfl) (fun _ _ => rfl)) ETsL_nil (fun _ => rfl)) (fun _ => rfl) (fun _ => rfl)) (fun _ _ => rfl) (swap_yes rfl (by decide +kernel))) (ES_cons (E1_setComp 41 43 _ rfl rfl rfl rfl (by decide +kernel) rfl (EI_list (ET_var 14 _ rfl rfl rfl)) TTs_nil (ET_callL fn_len (.blt _) L.len rfl rfl (ETsL_cons (ET_comp 10 rfl (by decide +kernel) rfl (EI_list (ET_var 12 _ rfl rfl rfl)) (TTs_one (TT_val (ET_call (fn1 L) (L.ok 1 rfl) (L.name 1 rfl) rfl rfl (ETs_cons (ET_call (fn13 L) (L.ok 13 rfl) (L.name 13 rfl) rfl rfl (ETs_cons (ET_var 10 _ rfl rfl rfl) (ETs_cons (ET_call fn_chr (.blt _) L.chr rfl rfl (ETs_cons (ET_bin (ET_var 21 _ rfl rfl rfl) (ET_var 41 _ rfl rfl rfl) op_add) ETs_nil (fun _ => rfl)) (fun _ => rfl) (fun _ => rfl)) ETs_nil (fun _ => rfl)) (fun _ => rfl)) (fun _ => rfl) (fun _ => rfl)) (ETs_cons ET_int ETs_nil (fun _ => rfl)) (fun _ => rfl)) (fun _ => rfl) (fun _ => rfl)) (fun _ => rfl))) (ET_var 10 _ rfl rfl rfl) (fun _ _ => rfl)) ETsL_nil (fun _ => rfl)) (fun _ => rfl) (fun _ => rfl)) (fun _ _ => rfl) (swap_yes rfl (by decide +kernel))) (ES_cons (E1_set 44 _ rfl rfl rfl (ET_call (fn37 L) (L.ok 37 rfl) (L.name 37 rfl) rfl rfl (ETs_cons (ET_var 30 _ rfl rfl rfl) (ETs_cons (ET_neg ET_int) ETs_nil (fun _ => rfl)) (fun _ => rfl)) (fun _ => rfl) (fun _ => rfl)) (fun _ _ _ => rfl)) (ES_cons (E1_setComp 41 45 _ rfl rfl rfl rfl (by decide +kernel) rfl (EI_list (ET_var 14 _ rfl rfl rfl)) TTs_nil (ET_call (fn6 L) (L.ok 6 rfl) (L.name 6 rfl) rfl rfl (ETs_cons (ET_var 44 _ rfl rfl rfl) (ETs_cons (ET_call (fn37 L) (L.ok 37 rfl) (L.name 37 rfl) rfl rfl (ETs_cons (ET_var 30 _ rfl rfl rfl) (ETs_cons (ET_bin (ET_bin ET_int (ET_var 41 _ rfl rfl rfl) op_mul) ET_int op_add) ETs_nil (fun _ => rfl)) (fun _ => rfl)) (fun _ => rfl) (fun _ => rfl)) ETs_nil (fun _ => rfl)) (fun _ => rfl)) (fun _ => rfl) (fun _ => rfl)) (fun _ _ => rfl) (swap_yes rfl (by decide +kernel))) (ES_cons (E1_if (TT_or (TT_cmp (ET_var 43 _ rfl rfl rfl) (ET_var 42 _ rfl rfl rfl) op_neL rfl) (TT_cmp (ET_var 45 _ rfl rfl rfl) (ET_var 42 _ rfl rfl rfl) op_neL rfl)) (ES_cons (E1_ret ET_bool) ES_nil) ES_nil) (ES_cons (E1_setComp 10 46 _ rfl rfl rfl rfl (by decide +kernel) rfl (EI_list (ET_var 12 _ rfl rfl rfl)) TTs_nil (ET_call (fn30 L) (L.ok 30 rfl) (L.name 30 rfl) rfl rfl (ETs_cons (ET_var 9 _ rfl rfl rfl) (ETs_cons (ET_var 10 _ rfl rfl rfl) ETs_nil (fun _ => rfl)) (fun _ => rfl)) (fun _ => rfl) (fun _ => rfl)) (fun _ _ => rfl) (swap_yes rfl (by decide +kernel))) (ES_cons (E1_if (TT_cmp (ET_var 46 _ rfl rfl rfl) (ET_comp 15 rfl (by decide +kernel) rfl (EI_list (ET_var 38 _ rfl rfl rfl)) TTs_nil (ET_chain ET_int (ET_var 15 _ rfl rfl rfl) (ET_var 36 _ rfl rfl rfl) op_le op_lt rfl) (fun _ _ => rfl)) op_neL rfl) (ES_cons (E1_ret ET_bool) ES_nil) ES_nil) (ES_cons (E1_set 47 _ rfl rfl rfl (ET_call (fn6 L) (L.ok 6 rfl) (L.name 6 rfl) rfl rfl (ETs_cons (ET_call (fn37 L) (L.ok 37 rfl) (L.name 37 rfl) rfl rfl (ETs_cons (ET_var 30 _ rfl rfl rfl) (ETs_cons (ET_neg ET_int) ETs_nil (fun _ => rfl)) (fun _ => rfl)) (fun _ => rfl) (fun _ => rfl)) (ETs_cons (ET_call (fn37 L) (L.ok 37 rfl) (L.name 37 rfl) rfl rfl (ETs_cons (ET_var 30 _ rfl rfl rfl) (ETs_cons (ET_bin (ET_bin ET_int (ET_var 36 _ rfl rfl rfl) op_mul) ET_int op_sub) ETs_nil (fun _ => rfl)) (fun _ => rfl)) (fun _ => rfl) (fun _ => rfl)) ETs_nil (fun _ => rfl)) (fun _ => rfl)) (fun _ => rfl) (fun _ => rfl)) (fun _ _ _ => rfl)) (ES_cons (E1_ret (ET_and (ET_cmp (ET_var 47 _ rfl rfl rfl) (ET_call (fn8 L) (L.ok 8 rfl) (L.name 8 rfl) rfl rfl (ETs_cons (ET_var 46 _ rfl rfl rfl) (ETs_cons ET_bool ETs_nil (fun _ => rfl)) (fun _ => rfl)) (fun _ => rfl) (fun _ => rfl)) op_eq rfl) (ET_cmp (ET_callL fn_len (.blt _) L.len rfl rfl (ETsL_cons (ET_sub (ET_var 30 _ rfl rfl rfl) (ET_neg ET_int) (fun _ _ => rfl)) ETsL_nil (fun _ => rfl)) (fun _ => rfl) (fun _ => rfl)) (ET_bin ET_int (ET_callL fn_len (.blt _) L.len rfl rfl (ETsL_cons (ET_var 38 _ rfl rfl rfl) ETsL_nil (fun _ => rfl)) (fun _ => rfl) (fun _ => rfl)) op_sub) op_eq rfl))) ES_nil))))))))))
theorem et38arg : ET prog w G n (namesAt 38) markArg dArg :=
  (ET_bin (ET_list (ETs_cons (ET_var 39 _ rfl rfl rfl) (ETs_cons (ET_var 40 _ rfl rfl rfl) ETs_nil (fun _ => rfl)) (fun _ => rfl))) (ET_sub (ET_list (ETs_cons (ET_list (ETs_cons ET_int (ETs_cons ET_int ETs_nil (fun _ => rfl)) (fun _ => rfl))) (ETs_cons (ET_list (ETs_cons ET_int (ETs_cons ET_int ETs_nil (fun _ => rfl)) (fun _ => rfl))) (ETs_cons (ET_list ETs_nil) ETs_nil (fun _ => rfl)) (fun _ => rfl)) (fun _ => rfl))) (ET_var 35 _ rfl rfl rfl) (fun _ _ => rfl)) op_addL)
end
end Mine
end
section
open PySem PySem.W PyProof.Rows
namespace Mine
section
variable {M : Model} {A : Around} {R : GenEnd} {Y : Protocol} {n : Nat} {s₀ : Shared} {c : Code} {fs : List Frame} {s : Shared} {env : Env} {K : Flow → Sem Fin} {H : Value → Sem Fin} {gd : Bool → Bool} {lv : List Value → List Value}
theorem bind_wrap {α β : Type} (m : Sem α) (f : α → Sem β) {γ : Type} (K : β → Sem γ) (H : Value → Sem γ) (gd : Bool → Bool) (lv : List Value → List Value) : (m >>= f).wrap K H gd lv = m.wrap (fun a => (f a).wrap K H gd lv) H gd lv := by
  rw [Sem.bind_eq_wrap', Sem.wrap_wrap]
  rfl
theorem seg_plain {st : Stmt} (h : wpAny M (A.over c fs) (exec st env) (fun f s' => Seg M A R Y n s₀ c (K f) fs s') (fun _ _ => False) s) : Seg M A R Y n s₀ c ((exec st env).wrap K H gd lv) fs s :=
  seg_wrap (wpAny_mono h (fun _ _ x => x) fun _ _ x => x.elim)
theorem seg_If {test : Expr} {body orelse : List Stmt} {pos : Pos}
    (h : wpAny M (A.over c fs) (isTrue test env (eval test env)) (fun b s' => if b then Seg M A R Y n s₀ c ((execs body env).wrap K H gd lv) fs s' else Seg M A R Y n s₀ c ((execs orelse env).wrap K H gd lv) fs s') (fun _ _ => False) s) :
    Seg M A R Y n s₀ c ((exec (.If test body orelse pos) env).wrap K H gd lv) fs s := by
  rw [exec_If]
  show Seg M A R Y n s₀ c (.at pos fun _ => ((isTrue test env (eval test env)) >>= fun b => if b then execs body env else execs orelse env).wrap K H gd lv) fs s
  refine seg_at ?_
  rw [bind_wrap]
  refine seg_wrap (wpAny_mono h (fun b s' hb => ?_) fun _ _ x => x.elim)
  cases b
  · exact hb
  · exact hb
theorem seg_For {target iter : Expr} {body orelse : List Stmt} {pos : Pos} (hs : ∀ x, foldedSetIterable iter env x = pure x)
    (h : wpAny M (A.over c fs) (eval iter env) (fun x s₁ => wpAny M (A.over c fs) (pyIter x) (fun it s₂ => ∀ p, Seg M A R Y n s₀ (.forLoop target it body orelse env) (M.den (.forLoop target it body orelse env))
      (.ret (fun r => ((match r with | .ok f => (.pure f : Sem Flow) | .error e => .raise e).onRaise fun (x : Value) => do
        if (← field x 1) == Value.none then unsupported "frame.own-activation:exception-without-traceback"
        setFlight x env.frame).wrap K H gd lv) none (gd false) (lv []) c p [] :: fs) s₂) (fun _ _ => False) s₁) (fun _ _ => False) s) :
    Seg M A R Y n s₀ c ((exec (.For target iter body orelse pos) env).wrap K H gd lv) fs s := by
  rw [exec_For]
  show Seg M A R Y n s₀ c (.at pos fun _ => (eval iter env >>= fun a => foldedSetIterable iter env a >>= fun x => standAt iter.pos >>= fun _ => holding [x] (pyIter x) >>= fun it => runOwn (.forLoop target it body orelse env) env).wrap K H gd lv) fs s
  refine seg_at ?_
  rw [bind_wrap]
  refine seg_wrap (wpAny_mono h (fun x s₁ h₁ => ?_) fun _ _ x => x.elim)
  rw [hs x]
  show Seg M A R Y n s₀ c (.at iter.pos fun _ => (holding [x] (pyIter x) >>= fun it => runOwn (.forLoop target it body orelse env) env).wrap K H gd lv) fs s₁
  refine seg_at ?_
  rw [bind_wrap]
  refine seg_wrap (wpAny_holding (wpAny_mono h₁ (fun it s₂ h₂ => ?_) fun _ _ x => x.elim))
  exact seg_call h₂
end
section
variable {prog : Program} {w : World} {A : Around} {R : GenEnd} {Y : Protocol} {n : Nat} {s₀ : Shared} {fs : List Frame} {s : Shared} {env : Env}
theorem seg_forLoop {x : PySem.Str} {xp : Pos} {it : Value} {body : List Stmt}
    (h : wpAny (model prog w) (A.over (.forLoop (.Name x xp) it body [] env) fs) (pyNext it) (fun r s₁ => match r with
      | none => Seg (model prog w) A R Y n s₀ (.block [] env) (.pure (.done .next)) fs s₁
      | some v => wpAny (model prog w) (A.over (.forLoop (.Name x xp) it body [] env) fs) (assign (.Name x xp) env v) (fun _ s₂ => ∀ Hh : Value → Sem Fin, Seg (model prog w) A R Y n s₀ (.forLoop (.Name x xp) it body [] env) ((execs body env).wrap (fun f => match f with
          | .next | .cont => .pure (.again (.forLoop (.Name x xp) it body [] env))
          | .brk => .pure (.done .next)
          | .ret v => .pure (.done (.ret v))) Hh id id) fs s₂) (fun _ _ => False) s₁) (fun _ _ => False) s) :
    Seg (model prog w) A R Y n s₀ (.forLoop (.Name x xp) it body [] env) ((model prog w).den (.forLoop (.Name x xp) it body [] env)) fs s := by
  show Seg _ A R Y n s₀ _ ((forTurn (.Name x xp) it body [] env).onRaise (fun x => do noteFrame x env; theTreesLotGoes x)) fs s
  rw [Sem.onRaise_eq_wrap]
  unfold forTurn
  show Seg _ A R Y n s₀ _ (.at (Expr.Name x xp).pos fun _ => ((pyNext it).onRaise (fun _ => standAt { (Expr.Name x xp).pos with line := 0 }) >>= fun r => _).wrap _ _ _ _) fs s
  refine seg_at ?_
  rw [bind_wrap]
  refine seg_wrap (wpAny_onRaise (wpAny_mono h (fun r s₁ h₁ => ?_) fun _ _ x => x.elim))
  cases r with
  | none => exact seg_again rfl h₁
  | some v =>
    show Seg _ A R Y n s₀ _ ((assign (.Name x xp) env v >>= fun _ => execs body env >>= fun f => _).wrap _ _ _ _) fs s₁
    rw [bind_wrap]
    refine seg_wrap (wpAny_mono h₁ (fun _ s₂ h₂ => ?_) fun _ _ x => x.elim)
    rw [bind_wrap]
    refine cast (congrArg (fun t => Seg (model prog w) A R Y n s₀ (.forLoop (.Name x xp) it body [] env) t fs s₂) (Sem.wrap_congr (execs body env) id id (fun f => ?_) (fun e => rfl))) (h₂ fun e => (do noteFrame e env; theTreesLotGoes e : Sem Unit).bind fun _ => .raise e)
    cases f <;> rfl
end
end Mine
end
section
open PySem PySem.W PyProof.Rows
namespace Mine
noncomputable def nG : PySem.Str := PySem.Str.ofString "grouping"
noncomputable def nL : PySem.Str := PySem.Str.ofString "last_interval"
noncomputable def nI : PySem.Str := PySem.Str.ofString "interval"
noncomputable def gBody : List Stmt := match (bodyAt 15)[1]? with
  | some (Stmt.For _ _ b _ _) => b
  | _ => []
noncomputable def NLW (W : Addr → Prop) (h : Heap) : Prop := ∀ c, W c → ∃ ob, h.get? c = some ob ∧ ∀ vs n, ob ≠ listObj vs n
noncomputable def YG (G : Gl) (W : Addr → Prop) (Z : Addr → Prop) (val : Nat → Int) (z : Bool) : Protocol := fun m s₀ v s' kap => ∃ h' tk t, s' = { s₀ with heap := h', toks := tk } ∧ (∀ b ob, ¬ W b → s₀.heap.get? b = some ob → h'.get? b = some ob) ∧ NLW W h' ∧ v = .int (val m) t ∧
  ((z = true ∨ m ≠ 0) → ∀ s'', (∀ b ob, ¬ Z b → h'.get? b = some ob → s''.heap.get? b = some ob) → Base G s''.heap → kap (.send .none) s'')
noncomputable def RG (W : Addr → Prop) : GenEnd := fun n s₀ r s' => n = 0 ∧ r = .ok (.ret .none) ∧ ∃ h' tk, s' = { s₀ with heap := h', toks := tk } ∧ ∀ b ob, ¬ W b → s₀.heap.get? b = some ob → h'.get? b = some ob
structure Ge (env : Env) (W : Addr → Prop) (Z : Addr → Prop) : Prop where
  kind : env.scope.kind = .function
  names : ∀ x, env.kindOf x = (namesAt 15).lookup x
  glob : env.globals = mainGlobals
  co : env.scope.isCoroutine = false
  free : ¬ Z env.locals
  wl : W env.locals
section
variable {prog : Program} {w : World} {G : Gl} {A : Around} {env : Env} {W Z : Addr → Prop} {val : Nat → Int}
theorem Ge.inter (E : Ge env W Z) : interactive env = false := by unfold interactive; rw [E.kind]; rfl
theorem kL : (namesAt 15).lookup nL = some .local := rfl
theorem kI : (namesAt 15).lookup nI = some .local := rfl
theorem kG : (namesAt 15).lookup nG = some .local := rfl
theorem gW (Ee : Ge env W Z) (hWZ : ∀ c, W c → ¬ Z c) (R : GenEnd) {ck : Nat} {kp np yp ep : Pos} (lv : Int) : ∀ (n : Nat) (s₀ : Shared) (h : Heap) (tk : Nat) (fs : List Frame) (m : PySem.Str → Option Value) (t : Tok), splitAtGen fs = none → fs.any Frame.guarded = false → n ≠ 0 → (∀ j, j < n → val j = lv) →
    (∀ b ob, ¬ W b → s₀.heap.get? b = some ob → h.get? b = some ob) → NLW W h → h.Ns env.locals m → m nL = some (.int lv t) →
    Seg (model prog w) A R (YG G W Z val false) n s₀ (.whileLoop (.Constant (.bool true) ck kp) [.Expr (.Yield (some (.Name nL np)) yp) ep] [] env) ((model prog w).den (.whileLoop (.Constant (.bool true) ck kp) [.Expr (.Yield (some (.Name nL np)) yp) ep] [] env)) fs { s₀ with heap := h, toks := tk }
  | 0, _, _, _, _, _, _, _, _, hn, _, _, _, _, _ => absurd rfl hn
  | n + 1, s₀, h, tk, fs, m, t, hsp, hgd, _, hval, hN, hnl, ns, hm => by
    refine seg_whileLoop (wpAny_isTrue_value (wpAny_Constant_bool (wpAny_truthy_bool ?_)) rfl)
    rw [if_pos rfl]
    refine seg_execs_cons (seg_Expr_Yield hsp rfl hgd ?_ Ee.co Ee.inter)
    refine wpAny_Name (wpAny_loadName_local Ee.kind ((Ee.names _).trans kL) ns hm ?_) rfl
    intro kap hkap
    refine ⟨h, tk, t, rfl, hN, hnl, by rw [hval n (Nat.lt_succ_self _)], fun hz s'' hk B => hkap .none s'' ?_⟩
    have hn : n ≠ 0 := by rcases hz with q | q; cases q; exact q
    show Seg (model prog w) A R (YG G W Z val false) n s'' _ (.pure (.again _)) fs s''
    exact seg_again rfl (gW Ee hWZ R lv n s'' s''.heap s''.toks fs m t hsp hgd hn (fun j hj => hval j (Nat.lt_succ_of_lt hj)) (fun _ _ _ e => e) (fun c q => let ⟨ob, e, x⟩ := hnl c q; ⟨ob, hk c ob (hWZ c q) e, x⟩) (ns.at' fun ob e => hk _ ob Ee.free e) hm)
noncomputable def gok (val : Nat → Int) (z : Bool) : Nat → Option Int → List Int → Prop
  | n, _, [] => n = 0
  | n, last, x :: r => (x = 127 ∧ n = 0) ∨ (x = 0 ∧ n ≠ 0 ∧ z = false ∧ ∃ lv, last = some lv ∧ ∀ j, j < n → val j = lv) ∨ (x ≠ 127 ∧ x ≠ 0 ∧ ∃ n', n = n' + 1 ∧ val n' = x ∧ ((n' = 0 ∧ z = false) ∨ gok val z n' (some x) r))
end
end Mine
end
section
open PySem PySem.W PyProof.Rows
namespace Mine
section
variable {prog : Program} {w : World} {G : Gl} {A : Around} {env : Env} {W Z : Addr → Prop} {val : Nat → Int}
theorem Base.below {hc h h' : Heap} (B : Base G hc) (hN : ∀ b, W b → hc.objs.size ≤ b) (B1 : Base G h) (k : ∀ b ob, ¬ W b → h.get? b = some ob → h'.get? b = some ob) : Base G h' := by
  refine ⟨B1.g.at' fun ob e => k _ ob (fun q => Nat.lt_irrefl _ (Nat.lt_of_lt_of_le B.g.lt (hN _ q))) e, B1.b.at' fun ob e => k _ ob (fun q => Nat.lt_irrefl _ (Nat.lt_of_lt_of_le B.b.lt (hN _ q))) e, ?_, fun a ob e => k a ob (fun q => Nat.lt_irrefl _ (Nat.lt_of_lt_of_le (Heap.lt_size (B.has a ob e)) (hN _ q))) (B1.has a ob e)⟩
  obtain ⟨m, ns, e⟩ := B1.lim
  obtain ⟨m', ns', e'⟩ := B.lim
  exact ⟨m, ns.at' fun ob e => k _ ob (fun q => Nat.lt_irrefl _ (Nat.lt_of_lt_of_le ns'.lt (hN _ q))) e, e⟩
theorem Base.below' {hc h h' : Heap} (B1 : Base G h) (B : Base G hc) (hN : ∀ b, W b → hc.objs.size ≤ b) (k : ∀ b ob, ¬ W b → h.get? b = some ob → h'.get? b = some ob) : Base G h' := Base.below B hN B1 k
noncomputable def Fin' (M : Model) (A : Around) (G : Gl) (W Z : Addr → Prop) (val : Nat → Int) (z : Bool) (fs : List Frame) : Prop := ∀ (n : Nat) (_ : n = 0) (s₀ : Shared) (h : Heap) (tk : Nat) (c : Code) (f : Flow), (f = .next ∨ f = .ret .none) → (∀ b ob, ¬ W b → s₀.heap.get? b = some ob → h.get? b = some ob) →
  Seg M A (RG W) (YG G W Z val z) n s₀ c (.pure (.done f)) fs { s₀ with heap := h, toks := tk }
theorem gF (Ee : Ge env W Z) {hc : Heap} (Bc : Base G hc) (hN : ∀ b, W b → hc.objs.size ≤ b) (hmax : ∃ t, G.mg (PySem.Str.ofString "CHAR_MAX") = some (.int 127 t)) {z : Bool} {I ax : Addr} {vs : List Value} {zs : List Int} (hzs : IntsAre vs zs)
    (hIZ : ¬ Z I) (hIW : W I) (hWd : ∀ c, W c → c = env.locals ∨ c = I) (hIL : I ≠ env.locals) (haZ : ¬ Z ax) (haI : ax ≠ I) (haL : ax ≠ env.locals) {fs : List Frame} (hsp : splitAtGen fs = none) (hgd : fs.any Frame.guarded = false) (hh : ∀ c, (A.over c fs).handled = none)
    (hfin : Fin' (model prog w) A G W Z val z fs) {xp : Pos} : ∀ (rem : List Int) (j n : Nat) (s₀ : Shared) (h : Heap) (tk : Nat) (m : PySem.Str → Option Value) (last : Option Int), zs.drop j = rem → gok val z n last rem →
    (∀ b ob, ¬ W b → s₀.heap.get? b = some ob → h.get? b = some ob) → Base G h → h.Ns env.locals m → h.IsListIter I ax j → h.IsList ax vs.toArray → (match last with | none => m nL = some .none | some lv => ∃ t, m nL = some (.int lv t)) →
    Seg (model prog w) A (RG W) (YG G W Z val z) n s₀ (.forLoop (.Name nI xp) (.ref I) gBody [] env) ((model prog w).den (.forLoop (.Name nI xp) (.ref I) gBody [] env)) fs { s₀ with heap := h, toks := tk }
  | [], j, n, s₀, h, tk, m, last, hr, hg, hk, B, ns, hit, hl, hm => by
    have hj : zs.length ≤ j := by
      rcases Nat.lt_or_ge j zs.length with q | q
      · rw [List.drop_eq_getElem_cons q] at hr; cases hr
      · exact q
    refine seg_forLoop (wpAny_pyNext_list_end (hh _) hit hl (by simp [hzs.length]; exact hj) fun h' he => ?_)
    exact hfin n (by unfold gok at hg; exact hg) s₀ h' tk _ .next (Or.inl rfl) fun b ob hb e => he b ob (fun q => hb (q ▸ hIW)) (hk b ob hb e)
  | x :: r, j, n, s₀, h, tk, m, last, hr, hg, hk, B, ns, hit, hl, hm => by
    have hj : j < zs.length := by
      rcases Nat.lt_or_ge j zs.length with q | q
      · exact q
      · rw [List.drop_of_length_le q] at hr; cases hr
    rw [List.drop_eq_getElem_cons hj] at hr
    have hx : zs[j] = x := (List.cons.inj hr).1
    have hr' : zs.drop (j + 1) = r := (List.cons.inj hr).2
    obtain ⟨tx, hvx⟩ : ∃ t, vs[j]? = some (.int x t) := by
      have key : ∀ {vs : List Value} {zs : List Int} (_ : IntsAre vs zs) (j : Nat) (hj : j < zs.length), ∃ t, vs[j]? = some (.int zs[j] t) := by
        intro vs zs hz
        induction hz with
        | nil => intro j hj; cases hj
        | cons n t _ ih =>
          intro j hj
          cases j with
          | zero => exact ⟨t, rfl⟩
          | succ j => exact ih j (Nat.lt_of_succ_lt_succ hj)
      obtain ⟨t, e⟩ := key hzs j hj
      exact ⟨t, by rw [← hx]; exact e⟩
    refine seg_forLoop (wpAny_pyNext_list_item hit hl (x := .int x tx) (by simpa using hvx) fun h1 hit1 hs1 => ?_)
    have ns1 := ns.sameBut hs1 (Ne.symm hIL)
    refine wpAny_assign_Name (wpAny_storeName_local ((Ee.names _).trans kI) ns1 (fun h2 ns2 hs2 => ?_) (by rw [Ee.kind]; rfl))
    have k02 : ∀ b ob, ¬ W b → s₀.heap.get? b = some ob → h2.get? b = some ob := fun b ob hb e => hs2.extBut b ob (fun q => hb (q ▸ Ee.wl)) (hs1.extBut b ob (fun q => hb (q ▸ hIW)) (hk b ob hb e))
    have B2 : Base G h2 := B.below' Bc hN fun b ob hb e => hs2.extBut b ob (fun q => hb (q ▸ Ee.wl)) (hs1.extBut b ob (fun q => hb (q ▸ hIW)) e)
    have hit2 : h2.IsListIter I ax (j + 1) := hit1.extBut hs2.extBut hIL
    have hl2 : h2.IsList ax vs.toArray := (hl.extBut hs1.extBut haI).extBut hs2.extBut haL
    have hLI : nL ≠ nI := by decide +kernel
    have hWZ : ∀ c, W c → ¬ Z c := fun c q => by rcases hWd c q with rfl | rfl; exact Ee.free; exact hIZ
    have nl2 : NLW W h2 := fun c q => by
      rcases hWd c q with rfl | rfl
      · exact ns_notList ns2
      · obtain ⟨ob, e, c', d⟩ := hit2
        exact ⟨ob, e, fun vs n e' => by rw [e'] at d; cases d⟩
    have mI : (fun y => if y = nI then some (Value.int x tx) else m y) nI = some (.int x tx) := by simp
    have mL : (fun y => if y = nI then some (Value.int x tx) else m y) nL = m nL := by simp [hLI]
    obtain ⟨tm, hmax⟩ := hmax
    intro Hh
    -- interval == CHAR_MAX
    refine seg_execs_cons (seg_If (wpAny_isTrue_Compare1 ?_))
    refine wpAny_Name (wpAny_loadName_local Ee.kind ((Ee.names _).trans kI) ns2 mI ?_) rfl
    refine Calls.Name_function_global Ee.kind ((Ee.names _).trans rfl) (Calls.loadGlobal_global (by rw [Ee.glob]; exact B2.g) hmax ?_) rfl
    refine PyProof.Rows.eq_int (wpAny_truthy_bool ?_)
    unfold gok at hg
    by_cases h127 : x = 127
    · rw [if_pos (by rw [h127]; rfl)]
      refine seg_execs_cons (seg_plain (wpAny_Return_none ?_))
      have hn0 : n = 0 := by
        rcases hg with q | ⟨q, _⟩ | ⟨q, _⟩
        · exact q.2
        · rw [h127] at q; cases q
        · exact absurd h127 q
      exact hfin n hn0 s₀ h2 _ _ (.ret .none) (Or.inr rfl) k02
    · rw [if_neg (by simpa using h127)]
      refine seg_execs_nil ?_
      refine seg_execs_cons (seg_If (wpAny_isTrue_Compare1 ?_))
      refine wpAny_Name (wpAny_loadName_local Ee.kind ((Ee.names _).trans kI) ns2 mI ?_) rfl
      refine wpAny_Constant_int ?_
      refine PyProof.Rows.eq_int (wpAny_truthy_bool ?_)
      by_cases h0 : x = 0
      · rw [if_pos (by rw [h0]; rfl)]
        rcases hg with q | ⟨_, hn, hz, lv, rfl, hval⟩ | ⟨_, q, _⟩
        · exact absurd q.1 h127
        · subst hz
          obtain ⟨tl, hml⟩ := hm
          refine seg_execs_cons (seg_If (wpAny_isTrue_Compare1 ?_))
          refine wpAny_Name (wpAny_loadName_local Ee.kind ((Ee.names _).trans kL) ns2 (mL.trans hml) ?_) rfl
          refine wpAny_Constant_none ?_
          refine PyProof.Rows.is_int_none (wpAny_truthy_bool ?_)
          rw [if_neg (by decide)]
          refine seg_execs_nil ?_
          refine seg_execs_cons (seg_While fun p => ?_)
          exact gW Ee hWZ (RG W) lv n s₀ h2 _ _ _ tl (by simp [splitAtGen, hsp]) (by simp [Frame.guarded, hgd]) hn hval k02 nl2 ns2 (mL.trans hml)
        · exact absurd h0 q
      · rw [if_neg (by simpa using h0)]
        rcases hg with q | ⟨q, _⟩ | ⟨_, _, n', rfl, hval, hgo⟩
        · exact absurd q.1 h127
        · exact absurd q h0
        · refine seg_execs_nil ?_
          refine seg_execs_cons (seg_Expr_Yield hsp rfl hgd ?_ Ee.co Ee.inter)
          refine wpAny_Name (wpAny_loadName_local Ee.kind ((Ee.names _).trans kI) ns2 mI ?_) rfl
          intro kap hkap
          refine ⟨h2, _, tx, rfl, k02, nl2, by rw [hval], fun hz s'' hkk B'' => hkap .none s'' ?_⟩
          have hgo' : gok val z n' (some x) r := by
            rcases hgo with ⟨q1, q2⟩ | q
            · rcases hz with q | q
              · rw [q2] at q; cases q
              · exact absurd q1 q
            · exact q
          have ns3 : s''.heap.Ns env.locals _ := ns2.at' fun ob e => hkk _ ob Ee.free e
          refine seg_execs_cons (seg_plain (wpAny_Assign_Name (wpAny_Name (wpAny_loadName_local Ee.kind ((Ee.names _).trans kI) ns3 mI ?_) rfl)))
          refine wpAny_storeName_local ((Ee.names _).trans kL) ns3 (fun h4 ns4 hs4 => ?_) (by rw [Ee.kind]; rfl)
          refine seg_execs_nil ?_
          refine seg_again rfl ?_
          have k4 : ∀ b ob, ¬ W b → s''.heap.get? b = some ob → h4.get? b = some ob := fun b ob hb e => hs4.extBut b ob (fun q => hb (q ▸ Ee.wl)) e
          refine gF Ee Bc hN ⟨tm, hmax⟩ hzs hIZ hIW hWd hIL haZ haI haL hsp hgd hh hfin r (j + 1) n' s'' h4 _ _ (some x) hr' hgo' k4 (B''.below' Bc hN k4) ns4 ((hit2.at fun ob e => hkk I ob hIZ e).extBut hs4.extBut hIL) ((hl2.at fun ob e => hkk ax ob haZ e).extBut hs4.extBut haL) ⟨tx, if_pos rfl⟩
end
end Mine
end
section
open PySem PySem.W PyProof.Rows
namespace Mine
section
variable {prog : Program} {w : World} {G : Gl} {A : Around} {env : Env} {W Z : Addr → Prop} {val : Nat → Int} {E : Value → Shared → Prop} {s : Shared}
theorem pyNextG {a : Addr} {g n : Nat} {gs : GenState} {z : Bool} {Q : Option Value → Shared → Prop} (hh : A.handled = none) (hl : s.heap.NoLimit) (hroom : A.depth < recursionLimit) (hg : s.heap.IsGen a g) (hgs : s.gens[g]? = some gs)
    (hgo : gs.Goes (model prog w) A.in1 (RG W) (YG G W Z val z) n (.send .none) (s.setGen g .running))
    (hY : ∀ v s₁ gs', gs'.bare = true → YG G W Z val z (n - 1) (s.setGen g .running) v s₁ (fun r' s'' => match n with
        | 0 => False
        | m + 1 => gs'.Goes (model prog w) A.in1 (RG W) (YG G W Z val z) m r' s'') → Q (some v) (s₁.setGen g gs'))
    (hP : n = 0 → ∀ h' tk, (∀ b ob, ¬ W b → s.heap.get? b = some ob → h'.get? b = some ob) → Q none { (s.setGen g .running).setGen g .finished with heap := h', toks := tk }) : wpAny (model prog w) A (pyNext (.ref a)) Q E s := by
  unfold pyNext
  refine wpAny_bind (wpAny_attempt (wpAny_callSpecial?_slot (name := PySem.Str.ofString "__next__") hg.typeIs slot_gen_next (wpAny_call_entry slot_gen_next hg.typeIs entry_gen_next ?_ (args_gen_next _))))
  show wpAny _ A.in1 (Builtin.Generator.genWake (.ref a) (.send .none)) _ _ s
  unfold Builtin.Generator.genWake
  refine wpAny_bind (wpAny_holding (wpAny_genNumber hg (wpAny_bind (wpAny_genState hgs ?_))))
  cases gs with
  | running => exact hgo.elim
  | finished => exact hgo.elim
  | _ =>
    refine wpAny_bind (wpAny_roomToWake hl hroom ?_)
    show wpAny _ A.in1 (.resume g (.send .none) [] _) _ _ s
    refine wpAny_resumeQ hgs hgo (fun x s₁ hx => ?_) (fun v s₁ gs' hb hv => ?_)
    · obtain ⟨hn0, rfl, h', tk, rfl, hk⟩ := hx
      show wpAny _ A.in1 (newExc (.type "StopIteration") [] >>= _) _ _ _
      refine wpAny_bind ?_
      simp only [newExc, newTuple]
      refine wpAny_bind (wpAny_newObj_type ?_ (by size_fits))
      refine wpAny_bind (m := firstArgMember _ _) (wpAny_of_eq (a := Value.none) (by first | rfl | (simp only [firstArgMember]; rfl)) ?_)
      refine wpAny_newObj_type ?_ (by size_fits)
      simp only [raiseNew]
      refine wpAny_bind (wpAny_bind (wpAny_handled ?_))
      rw [show A.in1.handled = none from hh]
      refine wpAny_throw ?_
      refine wpAny_bind (wpAny_isInstance (T := "StopIteration") (b := true) ⟨_, Heap.get?_push_size _ rfl, rfl⟩ isSubtype_stop ?_)
      exact wpAny_pure (hP hn0 _ _ fun b o hb e => Heap.get?_push_of_some _ (Heap.get?_push_of_some _ (hk b o hb e)))
    · exact wpAny_pure ⟨v, rfl, wpAny_pure (hY v s₁ gs' hb hv)⟩
theorem gStart (Ee : Ge env W Z) {hc : Heap} (Bc : Base G hc) (hN : ∀ b, W b → hc.objs.size ≤ b) (hmax : ∃ t, G.mg (PySem.Str.ofString "CHAR_MAX") = some (.int 127 t)) {z : Bool} {ax : Addr} {vs : List Value} {zs : List Int} (hzs : IntsAre vs zs)
    (hZI : ¬ Z s.heap.objs.size) (hIW : W s.heap.objs.size) (hWd : ∀ c, W c → c = env.locals ∨ c = s.heap.objs.size) (haZ : ¬ Z ax) (hh : A.handled = none) (n : Nat) (m : PySem.Str → Option Value) (hg : gok val z n none zs)
    (B : Base G s.heap) (ns : s.heap.Ns env.locals m) (hm : m nG = some (.ref ax)) (hl : s.heap.IsList ax vs.toArray) (hLN : env.locals < s.heap.objs.size) :
    (GenState.fresh (.func (bodyAt 15) env)).Goes (model prog w) A (RG W) (YG G W Z val z) n (.send .none) s := by
  refine ⟨rfl, seg_func ?_⟩
  refine seg_execs_cons (seg_plain (wpAny_Assign_Name (wpAny_Constant_none ?_)))
  refine wpAny_storeName_local ((Ee.names _).trans kL) ns (fun h1 ns1 hs1 => ?_) (by rw [Ee.kind]; rfl)
  have haL : ax ≠ env.locals := fun q => by
    obtain ⟨ob, g, hn⟩ := ns_notList ns
    obtain ⟨ob', g', c, k, d⟩ := hl
    rw [q, g] at g'
    cases g'
    obtain ⟨ob2, es, ep, g2, d2, _⟩ := ns
    rw [g] at g2; cases g2
    rw [d2] at d; cases d
  have hl1 := hl.extBut hs1.extBut haL
  refine seg_execs_cons (seg_For (fun _ => rfl) ?_)
  have hGL : nG ≠ nL := by decide +kernel
  refine wpAny_Name (wpAny_loadName_local Ee.kind ((Ee.names _).trans kG) ns1 (v := .ref ax) (by
    show (if nG = nL then some Value.none else m nG) = _
    rw [if_neg hGL]; exact hm) ?_) rfl
  refine wpAny_pyIter_list hl1 fun p => ?_
  have hsz : h1.objs.size = s.heap.objs.size := hs1.1
  have haI : ax ≠ h1.objs.size := fun q => by
    obtain ⟨ob', g', _⟩ := hl1
    rw [q, fresh_size] at g'; cases g'
  have k1 : ∀ b ob, ¬ W b → s.heap.get? b = some ob → (h1.push { cls := .type "list_iterator", data := .fields #[.ref ax, .int 0 0] }).get? b = some ob := fun b ob hb e => Heap.get?_push_of_some _ (hs1.extBut b ob (fun q => hb (q ▸ Ee.wl)) e)
  refine gF Ee Bc hN hmax hzs (I := h1.objs.size) (by rw [hsz]; exact hZI) (by rw [hsz]; exact hIW) (by rw [hsz]; exact hWd) (Nat.ne_of_gt (by rw [hsz]; exact hLN)) haZ haI haL rfl rfl (by intro c; exact hh) ?_ zs 0 n s _ _ _ none rfl hg k1 (B.below' Bc hN k1) (ns1.push _) ⟨_, Heap.get?_push_size _ rfl, rfl, rfl⟩ (hl1.push _) (by show (if nL = nL then some Value.none else m nL) = _; rw [if_pos rfl])
  intro n' hn0 s₀ h tk c f hf hk
  have fin : Seg (model prog w) A (RG W) (YG G W Z val z) n' s₀ (.func (bodyAt 15) env) (leafOf (.ok (.ret .none))) [] { s₀ with heap := h, toks := tk } := seg_end _ ⟨hn0, rfl, h, tk, rfl, hk⟩
  rcases hf with rfl | rfl
  · exact seg_leaf (.ok .next) fin
  · exact seg_leaf (.ok (.ret .none)) fin
end
end Mine
end
section
open PySem PySem.W PyProof.Rows
namespace Mine
section
variable {prog : Program} {w : World} {G : Gl} {n : Nat} {adr : Nat → Addr} {ob : Nat → Obj} {fd : Nat → FuncData} {inS : Nat → Int → Bool}
theorem call_gen (L : Laid prog w G adr ob fd inS) {A : Around} {E : Value → Shared → Prop} {s : Shared} {Q : Value → Shared → Prop} {ax : Addr} {W Z : Addr → Prop} (hWl : W s.heap.objs.size) (hA : AOk (n + 1) A) (B : Base G s.heap) (hZN : ∀ b, Z b → b < s.heap.objs.size)
    (h : ∀ (env : Env) (h' : Heap) (tk : Nat) (aG : Addr) (m : PySem.Str → Option Value), Ge env W Z → env.locals = s.heap.objs.size → h'.objs.size = s.heap.objs.size + 2 → Kp s.heap h' → h'.IsGen aG s.gens.size → s.heap.get? aG = none → aG ≠ env.locals → h'.Ns env.locals m → m nG = some (.ref ax) →
      Q (.ref aG) { s with heap := h', toks := tk, gens := s.gens.push (.fresh (.func (bodyAt 15) env)) }) : wpAny (model prog w) A (call (.ref (adr 15)) [.ref ax]) Q E s := by
  have D := L.defs 15 rfl
  have hbind : bindArgs (fd 15) ⟨[.ref ax], []⟩ = pure [(nG, Value.ref ax)] := by
    have h1 := D.params
    have h2 := D.dflt
    revert h1 h2
    generalize fd 15 = f
    obtain ⟨name, qualname, params, body, scope, globals, closure, defaults, kwdefaults, doc, pyModule, annotations, code, closureTuple, builtins⟩ := f
    intro h1 h2
    simp only at h1 h2
    subst h1 h2
    rfl
  have hscope := D.scope
  refine wpAny_call (codeAny_call_generator (by have := hA.depth; unfold recursionLimit; omega) (D.at' _ B) D.data (by rw [hscope]; rfl) (by rw [hscope]; rfl) D.body (D.rec' _ B) ?_)
  rw [hbind]
  refine wpAny_pure ?_
  have nocell : ∀ x ∈ (fd 15).scope.names, x.2 ≠ .cell := by
    rw [hscope]
    have : (scopeAt 15).names.all (fun x => decide (x.2 ≠ .cell)) = true := by decide +kernel
    intro x hx
    have := List.all_eq_true.mp this x hx
    simpa using this
  refine wpAny_newFunctionEnv nocell (by
    intro x hx
    rw [List.mem_singleton] at hx
    subst hx
    rw [hscope]
    exact kG) (fun h' ns hs => ?_) (by rw [hscope]; rfl)
  have hloc : (newEnv (fd 15).scope s.heap.objs.size (fd 15).globals (fd 15).closure ((fd 15).qualname ++ ".<locals>.") (some (adr 15)) (fd 15).code none (fd 15).builtins).locals = s.heap.objs.size := rfl
  have hp : Kp s.heap h' := fun b ob e => hs.extBut b ob (Nat.ne_of_lt (Heap.lt_size e)) (Heap.get?_push_of_some _ e)
  have hsz : h'.objs.size = s.heap.objs.size + 1 := by rw [hs.1]; exact Heap.size_push ..
  refine ⟨B.lim.keeps hp, ?_⟩
  have ge : Ge (newEnv (fd 15).scope s.heap.objs.size (fd 15).globals (fd 15).closure ((fd 15).qualname ++ ".<locals>.") (some (adr 15)) (fd 15).code none (fd 15).builtins) W Z := {
    kind := by show (fd 15).scope.kind = _; rw [hscope]; rfl
    names := fun x => by show (fd 15).scope.names.lookup x = _; rw [hscope]; rfl
    glob := D.glob
    co := by show (fd 15).scope.isCoroutine = _; rw [hscope]; rfl
    free := fun q => Nat.lt_irrefl _ (hZN _ q)
    wl := hWl }
  refine h _ _ _ h'.objs.size _ ge hloc (by rw [Heap.size_push, hsz]) (hp.trans (Kp.push _ _)) ?_ ?_ (by rw [hloc, hsz]; exact Nat.succ_ne_self _) (ns.push _) (by simp)
  · exact ⟨_, _, _, Heap.get?_push_size _ rfl, rfl, rfl, rfl⟩
  · exact none_of_kp hp (fresh_size _)
end
end Mine
end
section
open PySem PySem.W PyProof.Rows
namespace Mine
noncomputable def forG (z : Bool) (i : Nat) (b : DS) : List Int → DS
  | [], l => if z then some (.next l) else none
  | x :: r, l => (b (upd l i (.int x))).bind fun fl => match fl with
    | .next l' => forG z i b r l'
    | .brk l' => some (.next l')
    | .ret v => some (.ret v)
noncomputable def valOf (vals : List Int) (m : Nat) : Int := vals.getD (vals.length - 1 - m) 0
theorem push_set (a : Array GenState) (x y : GenState) : (a.push x).setIfInBounds a.size y = a.push y := by
  apply Array.ext'
  simp
section
variable {prog : Program} {w : World} {G : Gl} {n : Nat} {X : Names} {adr : Nat → Addr} {ob : Nat → Obj} {fd : Nat → FuncData} {inS : Nat → Int → Bool}
theorem Fo.otherN {env : Env} {P₀ : Addr → Prop} {h₀ h h' : Heap} {o : Option Addr} {loc : Loc} {m : PySem.Str → Option Value} {W : Addr → Prop} (F : Fo G X env P₀ h₀ o loc m h) (hk : ∀ b ob, ¬ W b → h.get? b = some ob → h'.get? b = some ob)
    (hw : ∀ b, W b → h₀.get? b = none ∧ b ≠ env.locals ∧ (∀ x c, env.cells.lookup x = some c → b ≠ c) ∧ ∀ vs n, h.get? b ≠ some (listObj vs n)) : Fo G X env P₀ h₀ o loc m h' := by
  have hlist : ∀ a vs n, h.get? a = some (listObj vs n) → h'.get? a = some (listObj vs n) := fun a vs n g => hk a _ (fun q => (hw a q).2.2.2 vs n g) g
  have hVR : ∀ {v : V} {v' : Value}, VR h (PO P₀ o) o v v' → VR h' (PO P₀ o) o v v' := fun r => VR.mono (fun a vs n p g => ⟨p, hlist a vs n g⟩) (fun a vs n p g => ⟨p, hlist a vs n g⟩) _ r
  have hcell : ∀ x c cv, env.cells.lookup x = some c → h.IsCell c cv → h'.IsCell c cv := fun x c cv e ⟨ob, g, d⟩ => ⟨ob, hk c ob (fun q => (hw c q).2.2.1 x c e rfl) g, d⟩
  refine { F with keep := ?_, ns := ?_, cfresh := ?_, varL := ?_, varC := ?_, own := ?_ }
  · exact fun b ob e => hk b ob (fun q => by rw [(hw b q).1] at e; cases e) (F.keep b ob e)
  · exact F.ns.at' fun ob e => hk _ ob (fun q => (hw _ q).2.1 rfl) e
  · exact fun x c e => let ⟨a, b, cv, d⟩ := F.cfresh x c e; ⟨a, b, cv, hcell x c cv e d⟩
  · exact fun i v e hi => let ⟨v', a, b⟩ := F.varL i v e hi; ⟨v', a, hVR b⟩
  · exact fun i v e hi => let ⟨c, v', a, b, d⟩ := F.varC i v e hi; ⟨c, v', a, hcell _ c _ a b, hVR d⟩
  · exact fun a e => let ⟨b, vs, n, g⟩ := F.own a e; ⟨b, vs, n, hlist a vs n g⟩
theorem forGen (L : Laid prog w G adr ob fd inS) {A : Around} {env : Env} {P₀ : Addr → Prop} {h₀ : Heap} {oc : Addr} {loc lf : Loc} {m : PySem.Str → Option Value} {s : Shared} {Q : Flow → Shared → Prop} {E : Value → Shared → Prop} {i is : Nat} {k ks : NameKind} {xp fp sp cp pos : Pos} {xf : PySem.Str} {body : List Stmt} {b : DS}
    {items : List V} {zs vals : List Int} {z : Bool} (hA : AOk (n + 1) A) (F : Fo G X env P₀ h₀ (some oc) loc m s.heap) (hk : X.lookup (vn i) = some k) (hl : (k == .local || k == .cell) = true) (hks : X.lookup (vn is) = some ks) (hls : (ks == .local || ks == .cell) = true)
    (hxf : xf = nameAt 15) (hxk : X.lookup xf = some .globalImplicit) (hxd : (xf == ("__debug__" : PySem.Str)) = false) (hitems : loc is = some (.list items)) (hzs : intsV items = some zs) (hg : gok (valOf vals) z vals.length none zs)
    (hb : ES prog w G (n + 1) X body b) (hd : forG z i b vals loc = some (.next lf))
    (hQ : ∀ h' m' tk gs, gs.bare = true → Fo G X env P₀ h₀ (some oc) lf m' h' → St env (some oc) (some oc) s.heap h' → Q .next { s with heap := h', toks := tk, gens := s.gens.push gs }) :
    wpAny (model prog w) A (exec (.For (.Name (vn i) xp) (.Call (.Name xf fp) [.Name (vn is) sp] [] cp) body [] pos) env) Q E s := by
  subst hxf
  have hfree : AOk n A := hA.le (Nat.le_succ n)
  -- what the consumer may change; what the generator owns
  let Z : Addr → Prop := fun c => c < s.heap.objs.size ∧ (c = env.locals ∨ (∃ x, env.cells.lookup x = some c) ∨ c = oc)
  let W : Addr → Prop := fun c => c = s.heap.objs.size ∨ c = s.heap.objs.size + 2
  refine wpAny_For (wpAny_Call_Name_kw (name_ok (L.name 15 rfl) F.ok hxk hxd ?_)) (fun _ => rfl)
  refine callWith_ok (L.ok 15 rfl) rfl rfl ?_
  refine wpAny_items_cons ?_ rfl
  obtain ⟨sv, hsv, rsv⟩ := F.ok.vars is _ hitems ks hks (lend_kind hls)
  refine hsv.load F.kind ?_ (vn_ok is).1 (vn_ok is).2
  refine wpAny_items_nil ⟨F.ok.base, ?_⟩
  unfold VR at rsv
  obtain ⟨ax, vs, jx, rfl, pax, gax, rax⟩ := rsv
  refine call_gen L (W := W) (Z := Z) (Or.inl rfl) hA F.ok.base (fun _ q => q.1) fun ge h1 t1 aG mg hGe hloc hsz k1 hgen haG haL nsg hmg => ?_
  refine wpAny_pyIter_gen hgen ?_
  have F1 := F.keeps k1
  have hWN : ∀ c, W c → s.heap.objs.size ≤ c := fun c q => by
    rcases q with q | q
    · exact Nat.le_of_eq q.symm
    · rw [q]; exact Nat.le_add_right _ _
  have haxs : ax < s.heap.objs.size := Heap.lt_size gax
  have hstart : ∀ tk gens0, (GenState.fresh (.func (bodyAt 15) ge)).Goes (model prog w) A.in1 (RG W) (YG G W Z (valOf vals) z) vals.length (.send .none) { s with heap := h1, toks := tk, gens := gens0 } := fun tk gens0 =>
    gStart (A := A.in1) (s := { s with heap := h1, toks := tk, gens := gens0 }) hGe F.ok.base hWN L.max (intsAre_of rax hzs) (fun q => by have := q.1; rw [hsz] at this; exact absurd this (Nat.not_lt.mpr (Nat.le_add_right _ _))) (Or.inr hsz) (fun c q => by rw [hloc, hsz]; exact q) (fun q => by
      rcases q.2 with e | ⟨x, e⟩ | e
      · obtain ⟨ob, g, hn⟩ := ns_notList F.ns
        rw [← e, gax] at g; exact hn _ _ (Option.some.inj g).symm
      · obtain ⟨_, _, cv, hcv⟩ := F.cfresh x ax e
        obtain ⟨ob, g, hn⟩ := cell_notList hcv
        rw [gax] at g; exact hn _ _ (Option.some.inj g).symm
      · exact pax.2 (by rw [e])) hA.handled vals.length mg hg (F.ok.base.keeps k1) nsg hmg ((isList_of gax).at fun o e => k1 _ o e) (by rw [hloc, hsz]; exact Nat.lt_of_lt_of_le (Nat.lt_succ_self _) (Nat.le_succ _))
  refine codeAny_forLoop (fun k' s' => ∃ (j : Nat) (h : Heap) (tk : Nat) (m' : PySem.Str → Option Value) (l' : Loc) (gs : GenState), k' = vals.length - j ∧ j ≤ vals.length ∧ s' = { s with heap := h, toks := tk, gens := s.gens.push gs } ∧ Fo G X env P₀ h₀ (some oc) l' m' h ∧ St env (some oc) (some oc) s.heap h ∧
    h.IsGen aG s.gens.size ∧ (∀ c, W c → ∀ vs n, h.get? c ≠ some (listObj vs n)) ∧ ((z = true ∨ j ≠ vals.length) → ∀ tk gens0, gs.Goes (model prog w) A.in1 (RG W) (YG G W Z (valOf vals) z) (vals.length - j) (.send .none) { s with heap := h, toks := tk, gens := gens0 }) ∧ forG z i b (vals.drop j) l' = some (.next lf)) ?_ vals.length ?_ (fun _ => rfl)
  · rintro k' s' ⟨j, h2, t2, m2, l2, gs, rfl, hj, rfl, F2, s2, hgen2, hW2, hgo, hd2⟩
    have hWf : ∀ c, W c → s.heap.get? c = none := fun c q => by
      cases e : s.heap.get? c with
      | none => rfl
      | some ob => exact absurd (Heap.lt_size e) (Nat.not_lt.mpr (hWN c q))
    -- the generator's turn leaves the consumer's frame
    have stepF : ∀ {h3 : Heap}, (∀ c ob, ¬ W c → h2.get? c = some ob → h3.get? c = some ob) → Fo G X env P₀ h₀ (some oc) l2 m2 h3 ∧ St env (some oc) (some oc) s.heap h3 := fun {h3} k3 => by
      refine ⟨F2.otherN (W := W) k3 fun c q => ⟨none_of_kp F.keep (hWf c q), fun e => ?_, fun x c' e e' => ?_, hW2 c q⟩, ⟨fun c ob a1 a2 a3 e => k3 c ob (fun q => by rw [hWf c q] at e; cases e) (s2.kept c ob a1 a2 a3 e), fun c e => ?_, Or.inl rfl⟩⟩
      · have := F.ns.lt
        rw [← e] at this
        exact Nat.lt_irrefl _ (Nat.lt_of_lt_of_le this (hWN c q))
      · obtain ⟨_, _, cv, hcv⟩ := F.cfresh x c' e
        have := hcv.lt
        rw [← e'] at this
        exact Nat.lt_irrefl _ (Nat.lt_of_lt_of_le this (hWN c q))
      · cases q : s.heap.get? c with
        | none => rfl
        | some ob =>
          cases q2 : h2.get? c with
          | none => rw [s2.dom c q2] at q; cases q
          | some ob2 => rw [k3 c ob2 (fun q' => by rw [hWf c q'] at q; cases q) q2] at e; cases e
    have hgN : ¬ W aG := fun q => by
      rcases q with q | q
      · exact haL (by rw [hloc]; exact q)
      · obtain ⟨ob, nm, qn, g, _⟩ := hgen
        have := Heap.lt_size g
        rw [q, hsz] at this
        exact Nat.lt_irrefl _ this
    by_cases hz : z = true ∨ j ≠ vals.length
    · refine pyNextG (gs := gs) (W := W) (Z := Z) (G := G) (val := valOf vals) (z := z) (n := vals.length - j) hA.handled (F2.ok.base.lim) (by have := hA.depth; unfold recursionLimit; omega) hgen2 (by simp) ?_ ?_ ?_
      · have := hgo hz t2 (s.gens.push .running)
        show gs.Goes _ _ _ _ _ _ { s with heap := h2, toks := t2, gens := (s.gens.push gs).setIfInBounds s.gens.size .running }
        rw [push_set]
        exact this
      · rintro v s3 gs' hbare ⟨h3, t3, tv, rfl, k3, nl3, hv, cont⟩
        obtain ⟨F3, s23⟩ := stepF k3
        have hj' : j < vals.length := by
          rcases Nat.lt_or_ge j vals.length with q | q
          · exact q
          · have e0 : vals.length - j = 0 := by omega
            rw [e0] at cont
            have hz' : z = true := by rcases hz with q' | q'; exact q'; omega
            exact (cont (Or.inl hz') { s with heap := h3, toks := t3 } (fun _ _ _ e => e) F3.ok.base).elim
        obtain ⟨nn, hnn⟩ : ∃ nn, vals.length - j = nn + 1 := ⟨vals.length - j - 1, by omega⟩
        rw [hnn] at cont hv
        simp only [Nat.add_sub_cancel] at cont hv
        have hval : valOf vals nn = vals[j] := by
          unfold valOf
          have : vals.length - 1 - nn = j := by omega
          rw [this]
          simp [List.getD, List.getElem?_eq_getElem hj']
        rw [hval] at hv
        subst hv
        show wpAny _ A (assign (.Name (vn i) xp) env (.int vals[j] tv)) _ _ { s with heap := h3, toks := t3, gens := ((s.gens.push gs).setIfInBounds s.gens.size .running).setIfInBounds s.gens.size gs' }
        rw [push_set, push_set]
        rw [List.drop_eq_getElem_cons hj'] at hd2
        simp only [forG, Option.bind_eq_some_iff] at hd2
        obtain ⟨f1, hf1, hd2⟩ := hd2
        refine wpAny_assign_Name (F3.store (s := { s with heap := h3, toks := t3, gens := s.gens.push gs' }) (v := .int vals[j]) hk hl ⟨tv, rfl⟩ rfl fun h4 m4 t4 F4 s4 => ?_)
        refine hb A env P₀ h₀ (some oc) _ m4 _ _ _ f1 hA F4 hf1 ?_
        have ownS : ∀ {o' : Option Addr} {h : Heap}, St env (some oc) o' h4 h → o' = some oc := fun st => by
          rcases st.owner with r | ⟨r, _⟩
          · exact r
          · cases r
        cases f1 with
        | next l5 =>
          intro h5 m5 t5 o5 F5 s5
          have := ownS s5
          subst this
          have s45 : St env (some oc) (some oc) h3 h5 := s4.trans s5
          have keptZ : ∀ c ob, ¬ Z c → h3.get? c = some ob → h5.get? c = some ob := fun c ob hz' e => by
            have low : ∀ q, c = q → q < s.heap.objs.size → (q = env.locals ∨ (∃ x, env.cells.lookup x = some q) ∨ q = oc) → False := fun q e1 e2 e3 => hz' (by rw [e1]; exact ⟨e2, e3⟩)
            refine s45.kept c ob (fun q => low _ q F.ns.lt (Or.inl rfl)) (fun x c' e1 q => ?_) (fun q => ?_) e
            · obtain ⟨_, _, cv, hcv⟩ := F.cfresh x c' e1
              exact low _ q hcv.lt (Or.inr (Or.inl ⟨x, e1⟩))
            · cases q
              obtain ⟨_, vs', k', g'⟩ := F.own oc rfl
              exact low oc rfl (Heap.lt_size g') (Or.inr (Or.inr rfl))
          refine ⟨vals.length - (j + 1), by omega, j + 1, h5, t5, m5, l5, gs', rfl, hj', rfl, F5, s23.trans s45, ?_, ?_, ?_, hd2⟩
          · obtain ⟨ob, nm, qn, g, r⟩ := hgen2
            exact ⟨ob, nm, qn, keptZ _ _ (fun q => by
              have := haG
              rcases q.2 with e | ⟨x, e⟩ | e
              · obtain ⟨ob', g', _⟩ := ns_notList F.ns
                rw [← e, this] at g'; cases g'
              · obtain ⟨_, _, cv, ob', g', _⟩ := F.cfresh x _ e
                rw [this] at g'; cases g'
              · obtain ⟨_, vs', k', g'⟩ := F.own oc rfl
                rw [← e, this] at g'; cases g') (k3 _ _ hgN g), r⟩
          · intro c q vs' n' e
            obtain ⟨ob, e3, hn⟩ := nl3 c q
            rw [keptZ c ob (fun q' => Nat.lt_irrefl _ (Nat.lt_of_lt_of_le q'.1 (hWN c q))) e3] at e
            exact hn _ _ (Option.some.inj e)
          · intro hz2 tk gens0
            have e1 : vals.length - (j + 1) = nn := by omega
            rw [e1]
            have := cont (by
              rcases hz2 with q | q
              · exact Or.inl q
              · exact Or.inr (by omega)) { s with heap := h5, toks := tk, gens := gens0 } keptZ F5.ok.base
            exact this
        | brk l5 =>
          intro h5 m5 t5 o5 F5 s5
          have := ownS s5
          subst this
          cases hd2
          exact hQ h5 m5 t5 gs' hbare F5 (s23.trans (s4.trans s5))
        | ret v => cases hd2
      · intro hn0 h3 t3 k3
        obtain ⟨F3, s23⟩ := stepF k3
        have hj' : j = vals.length := by omega
        subst hj'
        rw [List.drop_of_length_le (Nat.le_refl _)] at hd2
        simp only [forG] at hd2
        split at hd2 <;> cases hd2
        show wpAny _ A (execs [] env) _ _ { s with heap := h3, toks := t3, gens := ((s.gens.push gs).setIfInBounds s.gens.size .running).setIfInBounds s.gens.size .finished }
        rw [push_set, push_set]
        exact wpAny_execs_nil (hQ h3 m2 t3 .finished rfl F3 s23)
    · have hj' : j = vals.length := by
        by_cases q : j = vals.length
        · exact q
        · exact absurd (Or.inr q) hz
      subst hj'
      rw [List.drop_of_length_le (Nat.le_refl _)] at hd2
      simp only [forG] at hd2
      rw [if_neg (fun q => hz (Or.inl q))] at hd2
      cases hd2
  · refine ⟨0, h1, t1, m, loc, _, rfl, Nat.zero_le _, rfl, F1, St.of_kp k1, hgen, ?_, fun _ tk gens0 => hstart tk gens0, hd⟩
    intro c q vs' n' e
    rcases q with q | q
    · obtain ⟨ob, g, hn⟩ := ns_notList nsg
      rw [hloc, ← q, e] at g
      exact hn _ _ (Option.some.inj g).symm
    · have := Heap.lt_size e
      rw [q, hsz] at this
      exact Nat.lt_irrefl _ this
end
end Mine
end
section
open PySem PySem.W PyProof.Rows
namespace Mine
section
variable {prog : Program} {w : World} {G : Gl} {n : Nat} {adr : Nat → Addr} {ob : Nat → Obj} {fd : Nat → FuncData} {inS : Nat → Int → Bool}
noncomputable def stB (k j : Nat) : Stmt := ((bodyAt k)[j]?).getD (.Pass default)
noncomputable def forBody (st : Stmt) : List Stmt := match st with
  | .For _ _ b _ _ => b
  | _ => []
noncomputable def den32_0 : DS := (sMk 14 (fList dNil))
theorem e32_0 : E1 prog w G n (namesAt 32) (stB 32 0) den32_0 :=
  (E1_mk 14 _ rfl rfl rfl (ETf_list ETs_nil) (fun _ _ _ => rfl))
noncomputable def den32_1 : DS := (sSet 15 (dNeg (dInt 4)))
theorem e32_1 : E1 prog w G n (namesAt 32) (stB 32 1) den32_1 :=
  (E1_set 15 _ rfl rfl rfl (ET_neg ET_int) (fun _ _ _ => rfl))
noncomputable def den32_3 : DS := (sRet (dVar 14))
theorem e32_3 : E1 prog w G n (namesAt 32) (stB 32 3) den32_3 :=
  (E1_ret (ET_var 14 _ rfl rfl rfl))
noncomputable def den32_2 : DS := (sCons (sSet 15 (dCall S9 (dCons (dVar 15) (dCons (dVar 16) dNil)))) (sCons (sApp 14 (dVar 15)) (sCons (sIf (tCmp eqV (dCallL lenS (dConsL (dVar 14) dNil)) (dInt 4)) (sCons sBrk sNil) sNil) sNil)))
theorem e32_2 (L : Laid prog w G adr ob fd inS) : ES prog w G (n + 1) (namesAt 32) (forBody (stB 32 2)) den32_2 :=
  (ES_cons (E1_set 15 _ rfl rfl rfl (ET_call (fn9 L) (L.ok 9 rfl) (L.name 9 rfl) rfl rfl (ETs_cons (ET_var 15 _ rfl rfl rfl) (ETs_cons (ET_var 16 _ rfl rfl rfl) ETs_nil (fun _ => rfl)) (fun _ => rfl)) (fun _ => rfl) (fun _ => rfl)) (fun _ _ _ => rfl)) (ES_cons (E1_app 14 _ rfl rfl rfl (ET_var 15 _ rfl rfl rfl) (app L) (L.ok 9 rfl) (L.name 9 rfl) rfl rfl (fun _ => rfl)) (ES_cons (E1_if (TT_cmp (ET_callL fn_len (.blt _) L.len rfl rfl (ETsL_cons (ET_var 14 _ rfl rfl rfl) ETsL_nil (fun _ => rfl)) (fun _ => rfl) (fun _ => rfl)) ET_int op_eq rfl) (ES_cons E1_brk ES_nil) ES_nil) ES_nil)))
theorem marks_call (L : Laid prog w G adr ob fd inS) {A : Around} {P : Addr → Prop} {s : Shared} {Q : Value → Shared → Prop} {E : Value → Shared → Prop} {items : List V} {zs vals : List Int} {z : Bool} {sv : Value} {l1 l2 lf : Loc} {ms : V} (hA : AOk (n + 2) A) (B : Base G s.heap) (fr : ∀ a, s.heap.get? a = none → P a)
    (r : VR s.heap P none (.list items) sv) (hzs : intsV items = some zs) (hg : gok (valOf vals) z vals.length none zs) (h0 : den32_0 (bindP [13] [.list items] l0) = some (.next l1)) (h1 : den32_1 l1 = some (.next l2)) {xs14 : List V} (h14 : l2 14 = some (.own xs14)) (h13 : l2 13 = some (.list items))
    (h2 : forG z 16 den32_2 vals l2 = some (.next lf)) (h3 : den32_3 lf = some (.ret ms))
    (hQ : ∀ h' tk gs v', gs.bare = true → Kp s.heap h' → VR h' P none ms v' → Q v' { s with heap := h', toks := tk, gens := s.gens.push gs }) : wpAny (model prog w) A (call (.ref (adr 32)) [sv]) Q E s := by
  have hbind := bind_of (fd := fd 32) (k := 32) (ps := [13]) (L.defs 32 rfl).params (L.defs 32 rfl).dflt (by intro _ _ _ _ _ _ _ _ _ _ _ _ _ vals h; obtain ⟨a, rfl⟩ := vals1 h; rfl)
  refine call_def (n := n + 1) (L.defs 32 rfl) [13] (den := sNil) (by decide +kernel) hbind rfl rfl rfl hA B fr (VRs.single r) rfl fun env hh1 t1 m E' F st hA' _ => ?_
  refine wpAny_execs_cons (e32_0 _ env P s.heap none _ m _ _ E' _ hA' F h0 fun hh2 m2 t2 o2 F2 s2 => ?_)
  refine wpAny_execs_cons (e32_1 _ env P s.heap o2 _ m2 _ _ E' _ hA' F2 h1 fun hh3 m3 t3 o3 F3 s3 => ?_)
  obtain ⟨oc, _, _, ho, _, _⟩ := F3.owner h14 rfl
  subst ho
  refine wpAny_execs_cons (forGen L hA' F3 (i := 16) (is := 13) rfl rfl rfl rfl rfl rfl rfl h13 hzs hg (e32_2 L) h2 fun hh4 m4 t4 gs hb F4 s4 => ?_)
  refine wpAny_execs_cons (e32_3 _ env P s.heap (some oc) _ m4 _ _ E' _ hA' F4 h3 fun hh5 t5 v5 k5 r5 => ?_)
  exact hQ hh5 t5 gs v5 hb k5 r5
end
end Mine
end
section
open PySem PySem.W PyProof.Rows
namespace Mine
theorem execs_append {env : Env} : ∀ (a b : List Stmt), execs (a ++ b) env = execs a env >>= fun f => (match f with
    | .next => execs b env
    | f => pure f)
  | [], b => rfl
  | st :: a, b => by
    rw [List.cons_append, execs_cons, execs_cons, bind_assoc]
    congr 1
    funext f
    cases f
    · show execs (a ++ b) env = _
      rw [execs_append a b]
    · rfl
    · rfl
    · rfl
section
variable {prog : Program} {w : World} {G : Gl} {n : Nat} {adr : Nat → Addr} {ob : Nat → Obj} {fd : Nat → FuncData} {inS : Nat → Int → Bool}
theorem law_call (L : Laid prog w G adr ob fd inS) {A : Around} {P : Addr → Prop} {s : Shared} {Q : Value → Shared → Prop} {E : Value → Shared → Prop} {items sizes : List V} {zs vals : List Int} {z : Bool} {sv : Value} {lp l1 l2 lf : Loc} {ms v : V} {xs14 : List V} (hA : AOk (n + 4) A) (B : Base G s.heap) (fr : ∀ a, s.heap.get? a = none → P a)
    (r : VR s.heap P none (.list items) sv) (hpre : denPre (bindP [6] [.list items] l0) = some (.next lp)) (harg : dArg lp = some (.list sizes)) (hzs : intsV sizes = some zs) (hg : gok (valOf vals) z vals.length none zs)
    (h0 : den32_0 (bindP [13] [.list sizes] l0) = some (.next l1)) (h1 : den32_1 l1 = some (.next l2)) (h14 : l2 14 = some (.own xs14)) (h13 : l2 13 = some (.list sizes))
    (h2 : forG z 16 den32_2 vals l2 = some (.next lf)) (h3 : den32_3 lf = some (.ret ms)) (hpost : denPost inS (upd lp 14 ms) = some (.ret v))
    (hQ : ∀ h' tk gs v', gs.bare = true → Kp s.heap h' → VR h' P none v v' → Q v' { s with heap := h', toks := tk, gens := s.gens.push gs }) : wpAny (model prog w) A (call (.ref (adr 38)) [sv]) Q E s := by
  have hbind := bind_of (fd := fd 38) (k := 38) (ps := [6]) (L.defs 38 rfl).params (L.defs 38 rfl).dflt (by intro _ _ _ _ _ _ _ _ _ _ _ _ _ vals h; obtain ⟨a, rfl⟩ := vals1 h; rfl)
  refine call_def (n := n + 3) (L.defs 38 rfl) [6] (den := sNil) (by decide +kernel) hbind rfl rfl rfl hA B fr (VRs.single r) rfl fun env hh1 t1 m E' F st hA' _ => ?_
  have split : bodyAt 38 = (bodyAt 38).take 12 ++ (stB 38 12 :: (bodyAt 38).drop 13) := by rfl
  rw [split, execs_append]
  refine wpAny_bind (es38pre L _ env P s.heap none _ m _ _ E' _ hA' F hpre fun hh2 m2 t2 o2 F2 s2 => ?_)
  show wpAny _ _ (execs (stB 38 12 :: (bodyAt 38).drop 13) env) _ _ _
  refine wpAny_execs_cons (wpAny_Assign_Name ?_)
  refine wpAny_Call_Name_kw (name_ok (L.name 32 rfl) F2.ok rfl rfl ?_)
  refine callWith_ok (L.ok 32 rfl) rfl rfl ?_
  refine wpAny_items_cons ?_ rfl
  refine et38arg (n := n + 3) _ env _ o2 lp _ _ _ _ hA' F2.ok harg fun hh3 t3 v3 k3 r3 => ?_
  refine Calls.spliced_nil ⟨(F2.keeps k3).ok.base, ?_⟩
  refine marks_call L (n := n + 1) hA' (F2.keeps k3).ok.base (F2.keeps k3).ok.fresh (r3.unown rfl) hzs hg h0 h1 h14 h13 h2 h3 fun hh4 t4 gs v4 hb k4 r4 => ?_
  refine ((F2.keeps k3).keeps k4).store (i := 14) (s := { s with heap := hh4, toks := t4, gens := s.gens.push gs }) rfl rfl (r4.unown r4.none_free) r4.none_free fun hh5 m5 t5 F5 s5 => ?_
  refine es38post L _ env P s.heap o2 _ m5 { s with heap := hh5, toks := t5, gens := s.gens.push gs } _ E' _ hA' F5 hpost fun hh6 t6 v6 k6 r6 => ?_
  exact hQ hh6 t6 gs v6 hb k6 r6
end
end Mine
end
section
open PySem PySem.W PyProof.Rows
namespace Mine
noncomputable def ivs (ns : List Int) : List V := ns.map .int
noncomputable def bvs (ns : List Bool) : List V := ns.map .bool
theorem ivs_length (ns : List Int) : (ivs ns).length = ns.length := by simp [ivs]
theorem ivs_get (ns : List Int) (i : Nat) (h : i < ns.length) : (ivs ns)[i]? = some (.int ns[i]) := by simp [ivs, h]
theorem intsV_ivs : ∀ ns, intsV (ivs ns) = some ns
  | [] => rfl
  | a :: r => by
    show (intsV (ivs r)).map _ = _
    rw [intsV_ivs r]; rfl
theorem S6_int (a b : Int) : S6 [.int a, .int b] = some (.int (a - b)) := by rfl
theorem S9_int (a b : Int) : S9 [.int a, .int b] = some (.int (a + b)) := by rfl
theorem S5_int (a : Int) : S5 [.int a] = some (.int (-a)) := by rfl
theorem S3_int (a b : Int) : S3 [.int a, .int b] = some (.bool (decide (b < a))) := by rfl
theorem S2_int (a b : Int) : S2 [.int a, .int b] = some (.bool (a != b)) := by rfl
theorem S11_int (a b : Int) : S11 [.int a, .int b] = some (.int (a - b)) := by rfl
theorem S2_bool (a b : Bool) : S2 [.bool a, .bool b] = some (.bool (a != b)) := by rfl
theorem S10_int (a b : Int) (h : fitsB a b = true) : S10 [.int a, .int b] = some (.int (a * b)) := by
  show defS [0, 1] den10 [.int a, .int b] = _
  simp [defS, den10, sCons, sAug, sRet, dVar, bindP, upd, mulV, h, V.free, V.lend]
theorem fits_right {a b : Int} (h : b.natAbs < 2 ^ 63) : fitsB a b = true := by
  unfold fitsB
  have : ¬ (Builtin.Int.intBits b > shortFactorBits) := by
    unfold Builtin.Int.intBits shortFactorBits
    split
    · decide
    · rename_i hb
      have hb : b.natAbs ≠ 0 := by simpa using hb
      have := (Nat.log2_lt hb).mpr h
      omega
  simp [this]
theorem forD_inv {i : Nat} {b : DS} (Inv : List V → Loc → Prop) (step : ∀ x r l, Inv (x :: r) l → ∃ l', b (upd l i x) = some (.next l') ∧ Inv r l') : ∀ (xs : List V) (l : Loc), Inv xs l → ∃ l', forD i b xs l = some (.next l') ∧ Inv [] l'
  | [], l, h => ⟨l, rfl, h⟩
  | x :: r, l, h => by
    obtain ⟨l', e, h'⟩ := step x r l h
    obtain ⟨l2, e2, h2⟩ := forD_inv Inv step r l' h'
    refine ⟨l2, ?_, h2⟩
    show (b (upd l i x)).bind _ = _
    rw [e]
    exact e2
theorem inner37 (x : Int) (hx : x.natAbs < 2 ^ 63) (p : List Int) (l : Loc) (v0 : Int) (h15 : l 15 = some (.int x)) (h33 : l 33 = some (.int v0)) :
    ∃ l', forD 28 (sCons (sSet 33 (dCall S9 (dCons (dCall S10 (dCons (dVar 33) (dCons (dVar 15) dNil))) (dCons (dVar 28) dNil)))) sNil) (ivs p) l = some (.next l') ∧ l' 33 = some (.int (p.foldl (fun v c => v * x + c) v0)) ∧ ∀ j, j ≠ 28 → j ≠ 33 → l' j = l j := by
  induction p generalizing l v0 with
  | nil => exact ⟨l, rfl, h33, fun _ _ _ => rfl⟩
  | cons c p ih =>
    have e : (sCons (sSet 33 (dCall S9 (dCons (dCall S10 (dCons (dVar 33) (dCons (dVar 15) dNil))) (dCons (dVar 28) dNil)))) sNil) (upd l 28 (.int c)) = some (.next (upd (upd l 28 (.int c)) 33 (.int (v0 * x + c)))) := by
      have a15 : upd l 28 (.int c) 15 = some (.int x) := by rw [upd_ne _ _ (by decide)]; exact h15
      have a33 : upd l 28 (.int c) 33 = some (.int v0) := by rw [upd_ne _ _ (by decide)]; exact h33
      have a28 : upd l 28 (.int c) 28 = some (.int c) := upd_self _ _ _
      simp only [sCons, sSet, dCall, dCons, dNil, dVar, a15, a33, a28, Option.bind_some, V.free, if_true, Option.map_some, S10_int _ _ (fits_right hx), S9_int, sNil]
    obtain ⟨l', e', h', k'⟩ := ih (upd (upd l 28 (.int c)) 33 (.int (v0 * x + c))) (v0 * x + c) (by rw [upd_ne _ _ (by decide), upd_ne _ _ (by decide)]; exact h15) (upd_self _ _ _)
    refine ⟨l', ?_, h', fun j h1 h2 => by rw [k' j h1 h2, upd_ne _ _ h2, upd_ne _ _ h1]⟩
    show forD 28 _ (.int c :: ivs p) l = _
    unfold forD
    rw [e]
    exact e'
end Mine
end
section
open PySem PySem.W PyProof.Rows
namespace Mine
theorem compL_map {t : Loc → Option Bool} {de : DE} {l : Loc} {i : Nat} (f : V → Bool) (g : V → V) : ∀ (xs : List V), (∀ x ∈ xs, t (upd l i x) = some (f x)) → (∀ x ∈ xs, f x = true → de (upd l i x) = some (g x) ∧ (g x).imm = true) →
    compL t de (xs.map fun x => upd l i x) = some ((xs.filter f).map g)
  | [], _, _ => rfl
  | x :: r, h1, h2 => by
    have ih := compL_map (t := t) (de := de) (l := l) (i := i) f g r (fun y hy => h1 y (List.mem_cons_of_mem _ hy)) (fun y hy => h2 y (List.mem_cons_of_mem _ hy))
    rw [List.map_cons]
    unfold compL
    rw [h1 x List.mem_cons_self, Option.bind_some]
    cases hf : f x
    · rw [List.filter_cons_of_neg (by simp [hf])]
      simpa using ih
    · obtain ⟨e, hi⟩ := h2 x List.mem_cons_self hf
      rw [List.filter_cons_of_pos (by simp [hf])]
      simp only [if_true, e, Option.bind_some, hi, ih, Option.map_some, List.map_cons]
theorem chg_range : ∀ S : List Bool, chg S = ((List.range (S.length - 1)).filter fun k => S.getD k false != S.getD (k + 1) false).length
  | [] => rfl
  | [_] => rfl
  | a :: b :: r => by
    have ih := chg_range (b :: r)
    unfold chg
    rw [ih]
    simp only [List.length_cons, Nat.add_sub_cancel]
    rw [List.range_succ_eq_map, List.filter_cons]
    have e : (List.filter (fun k => (a :: b :: r).getD k false != (a :: b :: r).getD (k + 1) false) (List.map Nat.succ (List.range r.length))).length = (List.filter (fun k => (b :: r).getD k false != (b :: r).getD (k + 1) false) (List.range r.length)).length := by
      rw [List.filter_map, List.length_map]
      rfl
    by_cases hab : a = b
    · subst hab
      rw [if_pos rfl, Nat.zero_add, if_neg (by simp), e]
    · have : ((a :: b :: r).getD 0 false != (a :: b :: r).getD (0 + 1) false) = true := by simpa using hab
      rw [if_neg hab, if_pos this, List.length_cons, e]
      omega
theorem bvs_length (ns : List Bool) : (bvs ns).length = ns.length := by simp [bvs]
noncomputable def body37 : DS := sCons (sSet 33 (dInt 0))
        (sCons
          (sFor 28 (iList (dVar 32))
            (sCons
              (sSet 33 (dCall S9 (dCons (dCall S10 (dCons (dVar 33) (dCons (dVar 15) dNil))) (dCons (dVar 28) dNil))))
              sNil))
          (sCons
            (sIf (tVal (dCall S2 (dCons (dVar 33) (dCons (dInt 0) dNil))))
              (sCons (sApp 31 (dCall S3 (dCons (dVar 33) (dCons (dInt 0) dNil)))) sNil) sNil)
            sNil))
theorem sCons_eq {a b : DS} {l l' : Loc} (h : a l = some (.next l')) : sCons a b l = b l' := by unfold sCons; rw [h]; rfl
theorem sCons_ret {a b : DS} {l : Loc} {v : V} (h : a l = some (.ret v)) : sCons a b l = some (.ret v) := by unfold sCons; rw [h]; rfl
theorem sSet_eq {i : Nat} {a : DE} {l : Loc} {v : V} (h : a l = some v) (hf : v.free = true) : sSet i a l = some (.next (upd l i v)) := by unfold sSet; rw [h]; simp [hf]
theorem sFor_eq {i : Nat} {d : Loc → Option (List V)} {b : DS} {l : Loc} {xs : List V} (h : d l = some xs) : sFor i d b l = forD i b xs l := by unfold sFor; rw [h]; rfl
theorem sIf_eq {t : Loc → Option Bool} {a b : DS} {l : Loc} {c : Bool} (h : t l = some c) : sIf t a b l = if c then a l else b l := by unfold sIf; rw [h]; rfl
theorem iList_eq {a : DE} {l : Loc} {xs : List V} (h : a l = some (.list xs)) (hl : xs.length ≤ 4096) : iList a l = some xs := by unfold iList; rw [h]; simp [hl]
theorem sApp_eq {i : Nat} {a : DE} {l : Loc} {xs : List V} {v : V} (hi : l i = some (.own xs)) (h : a l = some v) (hf : v.free = true) (hl : xs.length ≤ 4096) : sApp i a l = some (.next (upd (upd l i (.own (xs ++ [v]))) i (.own (xs ++ [v])))) := by
  unfold sApp; rw [hi, h]; simp [hf, hl]
theorem dCall_eq {S : List V → Option V} {a : Loc → Option (List V)} {l : Loc} {vs : List V} (h : a l = some vs) : dCall S a l = S vs := by unfold dCall; rw [h]; rfl
theorem dCons_eq {a : DE} {b : Loc → Option (List V)} {l : Loc} {v : V} {vs : List V} (h : a l = some v) (hf : v.free = true) (h2 : b l = some vs) : dCons a b l = some (v :: vs) := by unfold dCons; rw [h, h2]; simp [hf]
theorem args1 {a : DE} {l : Loc} {v : V} (h : a l = some v) (hf : v.free = true) : dCons a dNil l = some [v] := dCons_eq h hf rfl
theorem args2 {a b : DE} {l : Loc} {v u : V} (h : a l = some v) (hf : v.free = true) (h2 : b l = some u) (hf2 : u.free = true) : dCons a (dCons b dNil) l = some [v, u] := dCons_eq h hf (args1 h2 hf2)
theorem tVal_eq {a : DE} {l : Loc} {b : Bool} (h : a l = some (.bool b)) : tVal a l = some b := by unfold tVal; rw [h]
theorem signsF_cons (p : List Int) (G : List (List Int)) (x : Int) : signsF (p :: G) x = (if horner p x = 0 then [] else [decide (0 < horner p x)]) ++ signsF G x := by
  unfold signsF
  by_cases h : horner p x = 0
  · simp [h]
  · simp [h]
theorem outer37 (x : Int) (hx : x.natAbs < 2 ^ 63) : ∀ (G : List (List Int)) (l : Loc) (acc : List Bool), (∀ p ∈ G, p.length ≤ 4096) → acc.length + G.length ≤ 4096 → l 15 = some (.int x) → l 31 = some (.own (bvs acc)) →
    ∃ l', forD 32 body37 (G.map fun p => .list (ivs p)) l = some (.next l') ∧ l' 31 = some (.own (bvs (acc ++ signsF G x)))
  | [], l, acc, _, _, _, h31 => ⟨l, rfl, by simpa [signsF] using h31⟩
  | p :: G, l, acc, hp, hl, h15, h31 => by
    have step : ∃ l', body37 (upd l 32 (.list (ivs p))) = some (.next l') ∧ l' 15 = some (.int x) ∧ l' 31 = some (.own (bvs (acc ++ (if horner p x = 0 then [] else [decide (0 < horner p x)])))) := by
      obtain ⟨l1, e1, h1, k1⟩ := inner37 x hx p (upd (upd l 32 (.list (ivs p))) 33 (.int 0)) 0 (by rw [upd_ne _ _ (by decide), upd_ne _ _ (by decide)]; exact h15) (upd_self _ _ _)
      have a32 : upd (upd l 32 (.list (ivs p))) 33 (.int 0) 32 = some (.list (ivs p)) := by rw [upd_ne _ _ (by decide), upd_self]
      have l15 : l1 15 = some (.int x) := by rw [k1 15 (by decide) (by decide), upd_ne _ _ (by decide), upd_ne _ _ (by decide)]; exact h15
      have l31 : l1 31 = some (.own (bvs acc)) := by rw [k1 31 (by decide) (by decide), upd_ne _ _ (by decide), upd_ne _ _ (by decide)]; exact h31
      have hv : l1 33 = some (.int (horner p x)) := h1
      have hlen : (ivs p).length ≤ 4096 := by rw [ivs_length]; exact hp p List.mem_cons_self
      have hla : (bvs acc).length ≤ 4096 := by rw [bvs_length]; omega
      unfold body37
      rw [sCons_eq (sSet_eq (a := dInt 0) rfl rfl), sCons_eq (l' := l1) (by rw [sFor_eq (iList_eq a32 hlen)]; exact e1)]
      have ht : tVal (dCall S2 (dCons (dVar 33) (dCons (dInt 0) dNil))) l1 = some (horner p x != 0) := tVal_eq (by rw [dCall_eq (args2 hv rfl (b := dInt 0) rfl rfl), S2_int])
      by_cases h0 : horner p x = 0
      · refine ⟨l1, ?_, l15, ?_⟩
        · refine (sCons_eq (l' := l1) ?_).trans rfl
          rw [sIf_eq ht, h0]; rfl
        · simpa [h0] using l31
      · refine ⟨_, (sCons_eq (l' := upd (upd l1 31 (.own (bvs acc ++ [.bool (decide (0 < horner p x))]))) 31 (.own (bvs acc ++ [.bool (decide (0 < horner p x))]))) ?_).trans rfl, ?_, ?_⟩
        · rw [sIf_eq ht, if_pos (by simpa using h0)]
          exact (sCons_eq (sApp_eq l31 (v := .bool (decide (0 < horner p x))) (by rw [dCall_eq (args2 hv rfl (b := dInt 0) rfl rfl), S3_int]) rfl hla)).trans rfl
        · rw [upd_ne _ _ (by decide), upd_ne _ _ (by decide)]; exact l15
        · rw [upd_self, if_neg h0]
          simp [bvs]
    obtain ⟨l1, e1, a15, a31⟩ := step
    obtain ⟨l2, e2, b31⟩ := outer37 x hx G l1 _ (fun q hq => hp q (List.mem_cons_of_mem _ hq)) (by
      simp only [List.length_cons] at hl
      by_cases h0 : horner p x = 0 <;> simp [h0] <;> omega) a15 a31
    refine ⟨l2, ?_, ?_⟩
    · rw [List.map_cons]
      unfold forD
      rw [e1]
      exact e2
    · rw [b31, signsF_cons, List.append_assoc]
theorem defS_eq {ps : List Nat} {den : DS} {vs : List V} {v : V} (hl : vs.length = ps.length) (h : den (bindP ps vs l0) = some (.ret v)) : defS ps den vs = some v := by
  unfold defS
  rw [if_pos hl, h]
theorem bvs_get (S : List Bool) (k : Nat) (h : k < S.length) : (bvs S)[k]? = some (.bool (S.getD k false)) := by simp [bvs, h]
theorem lenL_own {i : Nat} {l : Loc} {xs : List V} (h : l i = some (.own xs)) (hl : xs.length ≤ 4096) : dCallL lenS (dConsL (dVar i) dNil) l = some (.int xs.length) := by
  simp [dCallL, dConsL, dVar, dNil, h, V.lend, lenS, hl, V.imm]
theorem lenL_list {a : DE} {l : Loc} {xs : List V} (h : a l = some (.list xs)) (hl : xs.length ≤ 4096) : dCallL lenS (dConsL a dNil) l = some (.int xs.length) := by
  simp [dCallL, dConsL, dNil, h, V.lend, lenS, hl, V.imm]
theorem rangeV_two (a b : Int) (h : -4096 ≤ a ∧ a ≤ 4096 ∧ -4096 ≤ b ∧ b - a ≤ 4096) : rangeV [.int a, .int b] = some (rangeL a (b - a).toNat) := if_pos h
theorem rangeV_one (n : Int) (h : -4096 ≤ n ∧ n ≤ 4096) : rangeV [.int n] = some (rangeL 0 n.toNat) := if_pos h
theorem rangeL_mem {a : Int} {n : Nat} {x : V} (h : x ∈ rangeL a n) : ∃ k, k < n ∧ x = .int (a + k) := by
  unfold rangeL at h
  obtain ⟨k, hk, rfl⟩ := List.mem_map.mp h
  exact ⟨k, List.mem_range.mp hk, rfl⟩
theorem S37_eq (G : List (List Int)) (x : Int) (hx : x.natAbs < 2 ^ 63) (hG : G.length ≤ 4096) (hp : ∀ p ∈ G, p.length ≤ 4096) : S37 [.list (G.map fun p => .list (ivs p)), .int x] = some (.int (changesF G x)) := by
  have hsl : (signsF G x).length ≤ 4096 := by
    unfold signsF
    rw [List.length_map]
    exact Nat.le_trans (List.length_filter_le _ _) (by rw [List.length_map]; exact hG)
  refine defS_eq (ps := [30, 15]) (den := den37) rfl ?_
  have b : bindP [30, 15] [.list (G.map fun p => .list (ivs p)), .int x] l0 = upd (upd l0 30 (.list (G.map fun p => .list (ivs p)))) 15 (.int x) := rfl
  rw [b]
  generalize hl : upd (upd l0 30 (.list (G.map fun p => .list (ivs p)))) 15 (.int x) = l
  have h30 : l 30 = some (.list (G.map fun p => .list (ivs p))) := by rw [← hl, upd_ne _ _ (by decide), upd_self]
  have h15 : l 15 = some (.int x) := by rw [← hl, upd_self]
  have h100 : l 100 = none := by rw [← hl]; rfl
  obtain ⟨l2, e2, h31⟩ := outer37 x hx G (upd (upd l 100 .none) 31 (.own [])) [] hp (by simpa using hG) (by rw [upd_ne _ _ (by decide), upd_ne _ _ (by decide)]; exact h15) (upd_self _ _ _)
  have mk : sMk 31 (fList dNil) l = some (.next (upd (upd l 100 .none) 31 (.own []))) := by
    unfold sMk
    rw [h100]; rfl
  have body : den37 l = some (.ret (.int (changesF G x))) := by
    unfold den37
    rw [sCons_eq mk, sCons_eq (l' := l2) (by
      rw [sFor_eq (iList_eq (a := dVar 30) (xs := G.map fun p => .list (ivs p)) (by show upd (upd l 100 .none) 31 (.own []) 30 = _; rw [upd_ne _ _ (by decide), upd_ne _ _ (by decide)]; exact h30) (by rw [List.length_map]; exact hG))]
      exact e2)]
    rw [List.nil_append] at h31
    have hlen : (bvs (signsF G x)).length ≤ 4096 := by rw [bvs_length]; exact hsl
    have hr : iRange (dCons (dInt 1) (dCons (dCallL lenS (dConsL (dVar 31) dNil)) dNil)) l2 = some (rangeL 1 ((signsF G x).length - 1)) := by
      unfold iRange
      rw [args2 (a := dInt 1) rfl rfl (lenL_own h31 hlen) rfl, Option.bind_some, bvs_length]
      rw [rangeV_two _ _ (by omega)]
      congr 2
      omega
    have hc : compL (tVal (dCall S2 (dCons (dSub (dVar 31) (dBin subV (dVar 8) (dInt 1))) (dCons (dSub (dVar 31) (dVar 8)) dNil)))) (dVar 8) ((rangeL 1 ((signsF G x).length - 1)).map fun y => upd l2 8 y) =
        some (((rangeL 1 ((signsF G x).length - 1)).filter fun y => match y with | .int k => (signsF G x).getD (k - 1).toNat false != (signsF G x).getD k.toNat false | _ => false).map id) := by
      refine compL_map _ _ _ (fun y hy => ?_) (fun y hy _ => ?_)
      · obtain ⟨k, hk, rfl⟩ := rangeL_mem hy
        have a31 : upd l2 8 (.int (1 + (k : Int))) 31 = some (.own (bvs (signsF G x))) := by rw [upd_ne _ _ (by decide)]; exact h31
        have a8 : upd l2 8 (.int (1 + (k : Int))) 8 = some (.int (1 + (k : Int))) := upd_self _ _ _
        have g1 : dSub (dVar 31) (dBin subV (dVar 8) (dInt 1)) (upd l2 8 (.int (1 + (k : Int)))) = some (.bool ((signsF G x).getD k false)) := by
          simp only [dSub, dVar, a31, dBin, a8, dInt, subV, Option.bind_some, itemV, hlen, if_true]
          rw [if_pos (by omega)]
          have : (1 + (k : Int) - 1).toNat = k := by omega
          rw [this, bvs_get _ _ (by omega)]
        have g2 : dSub (dVar 31) (dVar 8) (upd l2 8 (.int (1 + (k : Int)))) = some (.bool ((signsF G x).getD (k + 1) false)) := by
          simp only [dSub, dVar, a31, a8, Option.bind_some, itemV, hlen, if_true]
          rw [if_pos (by omega)]
          have : (1 + (k : Int)).toNat = k + 1 := by omega
          rw [this, bvs_get _ _ (by omega)]
        refine tVal_eq ?_
        rw [dCall_eq (args2 g1 rfl g2 rfl), S2_bool]
        have e1 : (1 + (k : Int) - 1).toNat = k := by omega
        have e2 : (1 + (k : Int)).toNat = k + 1 := by omega
        simp only [e1, e2]
      · obtain ⟨k, hk, rfl⟩ := rangeL_mem hy
        exact ⟨upd_self _ _ _, rfl⟩
    have hcount : ((rangeL 1 ((signsF G x).length - 1)).filter fun y => match y with | .int k => (signsF G x).getD (k - 1).toNat false != (signsF G x).getD k.toNat false | _ => false).length = changesF G x := by
      unfold changesF
      rw [chg_range]
      unfold rangeL
      rw [List.filter_map, List.length_map]
      congr 2
      funext k
      have e1 : (1 + (k : Int) - 1).toNat = k := by omega
      have e2 : (1 + (k : Int)).toNat = k + 1 := by omega
      simp only [Function.comp, e1, e2]
    have hdc : ∃ zs, dComp 8 (iRange (dCons (dInt 1) (dCons (dCallL lenS (dConsL (dVar 31) dNil)) dNil))) (tVal (dCall S2 (dCons (dSub (dVar 31) (dBin subV (dVar 8) (dInt 1))) (dCons (dSub (dVar 31) (dVar 8)) dNil)))) (dVar 8) l2 = some (.list zs) ∧ zs.length = changesF G x :=
      ⟨_, by unfold dComp; rw [hr, Option.bind_some, hc]; rfl, by rw [List.map_id, hcount]⟩
    obtain ⟨zs, hdc, hzl⟩ := hdc
    have hle : changesF G x ≤ 4096 := by
      rw [← hcount]
      exact Nat.le_trans (List.length_filter_le _ _) (by rw [rangeL_length]; omega)
    refine (sCons_ret (v := .int (changesF G x)) ?_)
    unfold sRet
    rw [lenL_list hdc (by rw [hzl]; exact hle), hzl]
    rfl
  exact body
end Mine
end
section
open PySem PySem.W PyProof.Rows
namespace Mine
theorem rangeL_cons (a : Int) (n : Nat) : rangeL a (n + 1) = .int a :: rangeL (a + 1) n := by
  unfold rangeL
  rw [List.range_succ_eq_map, List.map_cons, List.map_map]
  congr 1
  · simp
  · apply List.map_congr_left
    intro k _
    simp only [Function.comp, Nat.succ_eq_add_one]
    congr 1
    push_cast
    omega
theorem dSub_list {a b : DE} {l : Loc} {xs : List V} {k : Nat} {v : V} (ha : a l = some (.list xs)) (hb : b l = some (.int k)) (hl : xs.length ≤ 4096) (hv : xs[k]? = some v) : dSub a b l = some v := by
  unfold dSub
  rw [ha, hb]
  simp only [Option.bind_some, itemV, hl, if_true]
  rw [if_pos (Int.natCast_nonneg k), Int.toNat_natCast, hv]
theorem dSub_own {a b : DE} {l : Loc} {xs : List V} {k : Nat} {v : V} (ha : a l = some (.own xs)) (hb : b l = some (.int k)) (hl : xs.length ≤ 4096) (hv : xs[k]? = some v) : dSub a b l = some v := by
  unfold dSub
  rw [ha, hb]
  simp only [Option.bind_some, itemV, hl, if_true]
  rw [if_pos (Int.natCast_nonneg k), Int.toNat_natCast, hv]
theorem dBin_add {a b : DE} {l : Loc} {x y : Int} (ha : a l = some (.int x)) (hb : b l = some (.int y)) : dBin addV a b l = some (.int (x + y)) := by
  unfold dBin; rw [ha, hb]; rfl
theorem dBin_sub {a b : DE} {l : Loc} {x y : Int} (ha : a l = some (.int x)) (hb : b l = some (.int y)) : dBin subV a b l = some (.int (x - y)) := by
  unfold dBin; rw [ha, hb]; rfl
theorem sPut_eq {i : Nat} {idx val : DE} {l : Loc} {xs : List V} {k : Nat} {v : V} (hi : l i = some (.own xs)) (hx : idx l = some (.int k)) (hv : val l = some v) (hf : v.free = true) (hk : k < xs.length) (hl : xs.length ≤ 4096) : sPut i idx val l = some (.next (upd l i (.own (xs.set k v)))) := by
  unfold sPut
  rw [hi, hv, hx]
  have : (k : Int) < xs.length := by omega
  simp [hf, this, hl]
theorem ivs_set (acc : List Int) (k : Nat) (x : Int) : (ivs acc).set k (.int x) = ivs (acc.set k x) := by
  unfold ivs; rw [List.map_set]
noncomputable def body33 : DS := sCons
            (sPut 19 (dBin addV (dVar 8) (dVar 20))
              (dCall S9
                (dCons (dSub (dVar 19) (dBin addV (dVar 8) (dVar 20)))
                  (dCons (dCall S10 (dCons (dSub (dVar 17) (dVar 8)) (dCons (dSub (dVar 18) (dVar 20)) dNil))) dNil))))
            sNil
theorem inner33 (one two : List Int) (k : Nat) (h1 : one.length ≤ 4096) (h2 : two.length ≤ 4096) (hk : k < one.length) (hs : ∀ b ∈ two, b.natAbs < 2 ^ 63) : ∀ (rest : List Int) (j : Nat) (acc : List Int) (l : Loc), two.drop j = rest → k + two.length ≤ acc.length → acc.length ≤ 4096 →
    l 17 = some (.list (ivs one)) → l 18 = some (.list (ivs two)) → l 8 = some (.int k) → l 19 = some (.own (ivs acc)) →
    ∃ l', forD 20 body33 (rangeL j rest.length) l = some (.next l') ∧ l' 19 = some (.own (ivs (addRow (one.getD k 0) rest (k + j) acc))) ∧ ∀ q, q ≠ 19 → q ≠ 20 → l' q = l q
  | [], j, acc, l, _, _, _, _, _, _, h19 => ⟨l, rfl, h19, fun _ _ _ => rfl⟩
  | b :: rest, j, acc, l, hd, hacc, hle, h17, h18, h8, h19 => by
    have hj : j < two.length := by
      rcases Nat.lt_or_ge j two.length with q | q
      · exact q
      · rw [List.drop_of_length_le q] at hd; cases hd
    rw [List.drop_eq_getElem_cons hj] at hd
    have hb : two[j] = b := (List.cons.inj hd).1
    have hd' : two.drop (j + 1) = rest := (List.cons.inj hd).2
    have a8 : upd l 20 (.int j) 8 = some (.int k) := by rw [upd_ne _ _ (by decide)]; exact h8
    have a17 : upd l 20 (.int j) 17 = some (.list (ivs one)) := by rw [upd_ne _ _ (by decide)]; exact h17
    have a18 : upd l 20 (.int j) 18 = some (.list (ivs two)) := by rw [upd_ne _ _ (by decide)]; exact h18
    have a19 : upd l 20 (.int j) 19 = some (.own (ivs acc)) := by rw [upd_ne _ _ (by decide)]; exact h19
    have a20 : upd l 20 (.int j) 20 = some (.int j) := upd_self _ _ _
    generalize hL : upd l 20 (.int j) = L at a8 a17 a18 a19 a20
    have hkj : k + j < acc.length := by omega
    have ei : dBin addV (dVar 8) (dVar 20) L = some (.int ((k + j : Nat) : Int)) := by
      rw [dBin_add (a := dVar 8) (b := dVar 20) a8 a20]
      congr 2
    have eo : one.getD k 0 = one[k] := by simp [List.getD, hk]
    have em : dCall S10 (dCons (dSub (dVar 17) (dVar 8)) (dCons (dSub (dVar 18) (dVar 20)) dNil)) L = some (.int (one[k] * b)) := by
      rw [dCall_eq (args2 (dSub_list (a := dVar 17) (b := dVar 8) a17 a8 (by rw [ivs_length]; exact h1) (ivs_get one k hk)) rfl (dSub_list (a := dVar 18) (b := dVar 20) a18 a20 (by rw [ivs_length]; exact h2) (ivs_get two j hj)) rfl), hb]
      exact S10_int _ _ (fits_right (hs b (hb ▸ List.getElem_mem hj)))
    have ev : dCall S9 (dCons (dSub (dVar 19) (dBin addV (dVar 8) (dVar 20))) (dCons (dCall S10 (dCons (dSub (dVar 17) (dVar 8)) (dCons (dSub (dVar 18) (dVar 20)) dNil))) dNil)) L = some (.int (acc[k + j] + one[k] * b)) := by
      rw [dCall_eq (args2 (dSub_own (a := dVar 19) a19 ei (by rw [ivs_length]; exact hle) (ivs_get acc _ hkj)) rfl em rfl), S9_int]
    have e : body33 L = some (.next (upd L 19 (.own (ivs (acc.set (k + j) (acc[k + j] + one[k] * b)))))) := by
      unfold body33
      refine (sCons_eq (sPut_eq a19 ei ev rfl (by rw [ivs_length]; exact hkj) (by rw [ivs_length]; exact hle))).trans ?_
      rw [ivs_set]
      rfl
    obtain ⟨l', e', r', q'⟩ := inner33 one two k h1 h2 hk hs rest (j + 1) (acc.set (k + j) (acc[k + j] + one[k] * b)) (upd L 19 (.own (ivs (acc.set (k + j) (acc[k + j] + one[k] * b))))) hd' (by rw [List.length_set]; exact hacc) (by rw [List.length_set]; exact hle)
      (by rw [upd_ne _ _ (by decide)]; exact a17) (by rw [upd_ne _ _ (by decide)]; exact a18) (by rw [upd_ne _ _ (by decide)]; exact a8) (upd_self _ _ _)
    refine ⟨l', ?_, ?_, fun q n1 n2 => by rw [q' q n1 n2, upd_ne _ _ n1, ← hL, upd_ne _ _ n2]⟩
    · rw [List.length_cons, rangeL_cons]
      unfold forD
      rw [hL, e]
      exact e'
    · rw [r']
      have : acc.getD (k + j) 0 = acc[k + j] := by simp [List.getD, hkj]
      have e3 : addRow (one.getD k 0) (b :: rest) (k + j) acc = addRow (one.getD k 0) rest (k + j + 1) (acc.set (k + j) (acc.getD (k + j) 0 + one.getD k 0 * b)) := rfl
      rw [e3, this, eo]
      rfl
end Mine
end
section
open PySem PySem.W PyProof.Rows
namespace Mine
theorem iRange1 {a : DE} {l : Loc} {n : Nat} (h : a l = some (.int n)) (hn : n ≤ 4096) : iRange (dCons a dNil) l = some (rangeL 0 n) := by
  unfold iRange
  rw [args1 h rfl, Option.bind_some, rangeV_one _ (by omega), Int.toNat_natCast]
noncomputable def body33o : DS := sCons (sFor 20 (iRange (dCons (dCallL lenS (dConsL (dVar 18) dNil)) dNil)) body33) sNil
theorem outer33 (one two : List Int) (h1 : one.length ≤ 4096) (h2 : two.length ≤ 4096) (hs : ∀ b ∈ two, b.natAbs < 2 ^ 63) : ∀ (rest : List Int) (k : Nat) (acc : List Int) (l : Loc), one.drop k = rest → one.length + two.length ≤ acc.length + 1 → acc.length ≤ 4096 →
    l 17 = some (.list (ivs one)) → l 18 = some (.list (ivs two)) → l 19 = some (.own (ivs acc)) →
    ∃ l', forD 8 body33o (rangeL k rest.length) l = some (.next l') ∧ l' 19 = some (.own (ivs (timesGo two rest k acc)))
  | [], k, acc, l, _, _, _, _, _, h19 => ⟨l, rfl, h19⟩
  | a :: rest, k, acc, l, hd, hacc, hle, h17, h18, h19 => by
    have hk : k < one.length := by
      rcases Nat.lt_or_ge k one.length with q | q
      · exact q
      · rw [List.drop_of_length_le q] at hd; cases hd
    rw [List.drop_eq_getElem_cons hk] at hd
    have ha : one[k] = a := (List.cons.inj hd).1
    have hd' : one.drop (k + 1) = rest := (List.cons.inj hd).2
    have a17 : upd l 8 (.int k) 17 = some (.list (ivs one)) := by rw [upd_ne _ _ (by decide)]; exact h17
    have a18 : upd l 8 (.int k) 18 = some (.list (ivs two)) := by rw [upd_ne _ _ (by decide)]; exact h18
    have a19 : upd l 8 (.int k) 19 = some (.own (ivs acc)) := by rw [upd_ne _ _ (by decide)]; exact h19
    have a8 : upd l 8 (.int k) 8 = some (.int k) := upd_self _ _ _
    generalize hL : upd l 8 (.int k) = L at a8 a17 a18 a19
    obtain ⟨l1, e1, r1, q1⟩ := inner33 one two k h1 h2 hk hs two 0 acc L rfl (by omega) hle a17 a18 a8 a19
    have e : body33o L = some (.next l1) := by
      unfold body33o
      refine (sCons_eq (l' := l1) ?_).trans rfl
      rw [sFor_eq (iRange1 (n := two.length) (by rw [lenL_list (a := dVar 18) (xs := ivs two) a18 (by rw [ivs_length]; exact h2), ivs_length]) h2)]
      exact e1
    rw [Nat.add_zero] at r1
    obtain ⟨l', e', r'⟩ := outer33 one two h1 h2 hs rest (k + 1) (addRow (one.getD k 0) two k acc) l1 hd' (by rw [addRow_length]; exact hacc) (by rw [addRow_length]; exact hle)
      (by rw [q1 17 (by decide) (by decide)]; exact a17) (by rw [q1 18 (by decide) (by decide)]; exact a18) r1
    refine ⟨l', ?_, ?_⟩
    · rw [List.length_cons, rangeL_cons]
      unfold forD
      rw [hL, e]
      exact e'
    · rw [r']
      have eo : one.getD k 0 = a := by rw [← ha]; simp [List.getD, hk]
      rw [eo]; rfl
theorem S33_eq (one two : List Int) (h1 : one.length ≤ 1000) (h2 : two.length ≤ 1000) (h0 : 0 < one.length + two.length) (hs : ∀ b ∈ two, b.natAbs < 2 ^ 63) : S33 [.list (ivs one), .list (ivs two)] = some (.list (ivs (timesF one two))) := by
  refine defS_eq (ps := [17, 18]) (den := den33) rfl ?_
  have b : bindP [17, 18] [.list (ivs one), .list (ivs two)] l0 = upd (upd l0 17 (.list (ivs one))) 18 (.list (ivs two)) := rfl
  rw [b]
  have h17 : upd (upd l0 17 (.list (ivs one))) 18 (.list (ivs two)) 17 = some (.list (ivs one)) := by rw [upd_ne _ _ (by decide), upd_self]
  have h18 : upd (upd l0 17 (.list (ivs one))) 18 (.list (ivs two)) 18 = some (.list (ivs two)) := upd_self _ _ _
  have h100 : upd (upd l0 17 (.list (ivs one))) 18 (.list (ivs two)) 100 = none := rfl
  generalize upd (upd l0 17 (.list (ivs one))) 18 (.list (ivs two)) = l at h17 h18 h100
  have len1 := lenL_list (a := dVar 17) (l := l) (xs := ivs one) h17 (by rw [ivs_length]; omega)
  have len2 := lenL_list (a := dVar 18) (l := l) (xs := ivs two) h18 (by rw [ivs_length]; omega)
  rw [ivs_length] at len1 len2
  have mk : sMk 19 (fRep (V.int 0) (dBin subV (dBin addV (dCallL lenS (dConsL (dVar 17) dNil)) (dCallL lenS (dConsL (dVar 18) dNil))) (dInt 1))) l = some (.next (upd (upd l 100 .none) 19 (.own (ivs (List.replicate (one.length + two.length - 1) 0))))) := by
    have e : dBin subV (dBin addV (dCallL lenS (dConsL (dVar 17) dNil)) (dCallL lenS (dConsL (dVar 18) dNil))) (dInt 1) l = some (.int ((one.length : Int) + two.length - 1)) := dBin_sub (dBin_add len1 len2) rfl
    unfold sMk
    rw [h100]
    simp only [fRep, e]
    rw [if_pos (by omega)]
    have : ((one.length : Int) + two.length - 1).toNat = one.length + two.length - 1 := by omega
    rw [this]
    simp [ivs]
  have n17 : upd (upd l 100 .none) 19 (.own (ivs (List.replicate (one.length + two.length - 1) 0))) 17 = some (.list (ivs one)) := by rw [upd_ne _ _ (by decide), upd_ne _ _ (by decide)]; exact h17
  have n18 : upd (upd l 100 .none) 19 (.own (ivs (List.replicate (one.length + two.length - 1) 0))) 18 = some (.list (ivs two)) := by rw [upd_ne _ _ (by decide), upd_ne _ _ (by decide)]; exact h18
  have n19 : upd (upd l 100 .none) 19 (.own (ivs (List.replicate (one.length + two.length - 1) 0))) 19 = some (.own (ivs (List.replicate (one.length + two.length - 1) 0))) := upd_self _ _ _
  unfold den33
  rw [sCons_eq mk]
  generalize upd (upd l 100 .none) 19 (.own (ivs (List.replicate (one.length + two.length - 1) 0))) = L at n17 n18 n19
  obtain ⟨l', e', r'⟩ := outer33 one two (by omega) (by omega) hs one 0 _ L rfl (by rw [List.length_replicate]; omega) (by rw [List.length_replicate]; omega) n17 n18 n19
  have elen := lenL_list (a := dVar 17) (l := L) (xs := ivs one) n17 (by rw [ivs_length]; omega)
  rw [ivs_length] at elen
  refine (sCons_eq (l' := l') ?_).trans ?_
  · rw [sFor_eq (iRange1 (n := one.length) elen (by omega))]
    exact e'
  · refine sCons_ret ?_
    show (dVar 19 l').map _ = _
    rw [show dVar 19 l' = l' 19 from rfl, r']
    rfl
end Mine
end
section
open PySem PySem.W PyProof.Rows
namespace Mine
theorem dMul_eq {a b : DE} {l : Loc} {x y : Int} (ha : a l = some (.int x)) (hb : b l = some (.int y)) (hf : fitsB x y = true) : dBin mulV a b l = some (.int (x * y)) := by
  unfold dBin; rw [ha, hb]
  simp [mulV, hf]
theorem dNeg_eq {a : DE} {l : Loc} {x : Int} (ha : a l = some (.int x)) : dNeg a l = some (.int (-x)) := by
  unfold dNeg; rw [ha]
theorem dList_eq {a : Loc → Option (List V)} {l : Loc} {xs : List V} (h : a l = some xs) (hl : xs.length ≤ 4096) : dList a l = some (.list xs) := by
  unfold dList; rw [h]; simp [hl]
noncomputable def body34 : DS := sCons
        (sSet 19
          (dCall S33
            (dCons (dVar 19)
              (dCons
                (dList
                  (dCons (dInt 1)
                    (dCons
                      (dCall S10
                        (dCons (dNeg (dInt 2))
                          (dCons (dCall S11 (dCons (dCall ordS (dCons (dVar 10) dNil)) (dCons (dVar 21) dNil))) dNil)))
                      dNil)))
                dNil))))
        sNil
theorem loop34 (low : Int) : ∀ (cs : List Nat) (acc : List Int) (l : Loc), (∀ c ∈ cs, ((c : Int) - low).natAbs < 2 ^ 60) → 0 < acc.length → acc.length + cs.length ≤ 900 → l 21 = some (.int low) → l 19 = some (.list (ivs acc)) →
    ∃ l', forD 10 body34 (cs.map fun c => .str ⟨#[c]⟩) l = some (.next l') ∧ l' 19 = some (.list (ivs ((cs.map fun (c : Nat) => (c : Int) - low).foldl (fun acc p => timesF acc [1, -2 * p]) acc)))
  | [], acc, l, _, _, _, _, h19 => ⟨l, rfl, h19⟩
  | c :: cs, acc, l, hs, h0, hle, h21, h19 => by
    have a21 : upd l 10 (.str ⟨#[c]⟩) 21 = some (.int low) := by rw [upd_ne _ _ (by decide)]; exact h21
    have a19 : upd l 10 (.str ⟨#[c]⟩) 19 = some (.list (ivs acc)) := by rw [upd_ne _ _ (by decide)]; exact h19
    have a10 : upd l 10 (.str ⟨#[c]⟩) 10 = some (.str ⟨#[c]⟩) := upd_self _ _ _
    generalize hL : upd l 10 (.str ⟨#[c]⟩) = L at a21 a19 a10
    have hc := hs c List.mem_cons_self
    have e1 : dCall ordS (dCons (dVar 10) dNil) L = some (.int c) := by
      rw [dCall_eq (args1 (a := dVar 10) a10 rfl)]; rfl
    have e2 : dCall S11 (dCons (dCall ordS (dCons (dVar 10) dNil)) (dCons (dVar 21) dNil)) L = some (.int ((c : Int) - low)) := by
      rw [dCall_eq (args2 (b := dVar 21) e1 rfl a21 rfl), S11_int]
    have e3 : dCall S10 (dCons (dNeg (dInt 2)) (dCons (dCall S11 (dCons (dCall ordS (dCons (dVar 10) dNil)) (dCons (dVar 21) dNil))) dNil)) L = some (.int (-2 * ((c : Int) - low))) := by
      rw [dCall_eq (args2 (dNeg_eq (a := dInt 2) (x := 2) rfl) rfl e2 rfl)]
      exact S10_int _ _ (fits_right (by omega))
    have e4 : dList (dCons (dInt 1) (dCons (dCall S10 (dCons (dNeg (dInt 2)) (dCons (dCall S11 (dCons (dCall ordS (dCons (dVar 10) dNil)) (dCons (dVar 21) dNil))) dNil))) dNil)) L = some (.list (ivs [1, -2 * ((c : Int) - low)])) :=
      dList_eq (args2 (a := dInt 1) rfl rfl e3 rfl) (by rw [ivs_length]; exact Nat.le_trans (Nat.le_refl 2) (by omega))
    have e5 : body34 L = some (.next (upd L 19 (.list (ivs (timesF acc [1, -2 * ((c : Int) - low)]))))) := by
      unfold body34
      refine (sCons_eq (sSet_eq (v := .list (ivs (timesF acc [1, -2 * ((c : Int) - low)]))) ?_ rfl)).trans rfl
      rw [dCall_eq (args2 (a := dVar 19) a19 rfl e4 rfl)]
      refine S33_eq _ _ (by simp only [List.length_cons] at hle; omega) (by simp) (by simp) (fun b hb => ?_)
      simp only [List.mem_cons, List.not_mem_nil, or_false] at hb
      rcases hb with rfl | rfl
      · decide
      · omega
    obtain ⟨l', e', r'⟩ := loop34 low cs (timesF acc [1, -2 * ((c : Int) - low)]) (upd L 19 (.list (ivs (timesF acc [1, -2 * ((c : Int) - low)])))) (fun d hd => hs d (List.mem_cons_of_mem _ hd)) (by rw [timesF_length]; simp only [List.length_cons, List.length_nil]; omega)
      (by rw [timesF_length]; simp only [List.length_cons, List.length_nil] at hle ⊢; omega) (by rw [upd_ne _ _ (by decide)]; exact a21) (upd_self _ _ _)
    refine ⟨l', ?_, ?_⟩
    · rw [List.map_cons]
      unfold forD
      rw [hL, e5]
      exact e'
    · rw [r', List.map_cons, List.foldl_cons]
theorem S34_eq (cs : List Nat) (low m d : Int) (hs : ∀ c ∈ cs, ((c : Int) - low).natAbs < 2 ^ 60) (hcs : cs.length ≤ 800) (hm : m.natAbs < 2 ^ 60) (hd : d.natAbs < 2 ^ 60) :
    S34 [.str ⟨cs.toArray⟩, .int low, .int m, .int d] = some (.list (ivs (productF (cs.map fun (c : Nat) => (c : Int) - low) m d))) := by
  refine defS_eq (ps := [11, 21, 22, 23]) (den := den34) rfl ?_
  have b : bindP [11, 21, 22, 23] [.str ⟨cs.toArray⟩, .int low, .int m, .int d] l0 = upd (upd (upd (upd l0 11 (.str ⟨cs.toArray⟩)) 21 (.int low)) 22 (.int m)) 23 (.int d) := rfl
  rw [b]
  have h11 : upd (upd (upd (upd l0 11 (.str ⟨cs.toArray⟩)) 21 (.int low)) 22 (.int m)) 23 (.int d) 11 = some (.str ⟨cs.toArray⟩) := rfl
  have h21 : upd (upd (upd (upd l0 11 (.str ⟨cs.toArray⟩)) 21 (.int low)) 22 (.int m)) 23 (.int d) 21 = some (.int low) := rfl
  have h22 : upd (upd (upd (upd l0 11 (.str ⟨cs.toArray⟩)) 21 (.int low)) 22 (.int m)) 23 (.int d) 22 = some (.int m) := rfl
  have h23 : upd (upd (upd (upd l0 11 (.str ⟨cs.toArray⟩)) 21 (.int low)) 22 (.int m)) 23 (.int d) 23 = some (.int d) := rfl
  generalize upd (upd (upd (upd l0 11 (.str ⟨cs.toArray⟩)) 21 (.int low)) 22 (.int m)) 23 (.int d) = l at h11 h21 h22 h23
  have c1 : dBin mulV (dNeg (dInt 4)) (dVar 22) l = some (.int (-4 * m)) := dMul_eq (dNeg_eq (a := dInt 4) (x := 4) rfl) (b := dVar 22) h22 (fits_right (by omega))
  have c2 : dBin mulV (dInt 4) (dVar 22) l = some (.int (4 * m)) := dMul_eq (a := dInt 4) (b := dVar 22) rfl h22 (fits_right (by omega))
  have c3 : dBin mulV (dBin mulV (dInt 4) (dVar 22)) (dVar 22) l = some (.int (4 * m * m)) := dMul_eq (b := dVar 22) c2 h22 (fits_right (by omega))
  have c4 : dBin mulV (dVar 23) (dVar 23) l = some (.int (d * d)) := dMul_eq (a := dVar 23) (b := dVar 23) h23 h23 (fits_right (by omega))
  have c5 := dBin_add c3 c4
  have e0 : dList (dCons (dInt 1) (dCons (dBin mulV (dNeg (dInt 4)) (dVar 22)) (dCons (dBin addV (dBin mulV (dBin mulV (dInt 4) (dVar 22)) (dVar 22)) (dBin mulV (dVar 23) (dVar 23))) dNil))) l = some (.list (ivs [1, -4 * m, 4 * m * m + d * d])) :=
    dList_eq (dCons_eq (a := dInt 1) rfl rfl (args2 c1 rfl c5 rfl)) (by rw [ivs_length]; exact Nat.le_trans (Nat.le_refl 3) (by omega))
  unfold den34
  rw [sCons_eq (sSet_eq e0 rfl)]
  have n21 : upd l 19 (.list (ivs [1, -4 * m, 4 * m * m + d * d])) 21 = some (.int low) := by rw [upd_ne _ _ (by decide)]; exact h21
  have n11 : upd l 19 (.list (ivs [1, -4 * m, 4 * m * m + d * d])) 11 = some (.str ⟨cs.toArray⟩) := by rw [upd_ne _ _ (by decide)]; exact h11
  have n19 : upd l 19 (.list (ivs [1, -4 * m, 4 * m * m + d * d])) 19 = some (.list (ivs [1, -4 * m, 4 * m * m + d * d])) := upd_self _ _ _
  generalize upd l 19 (.list (ivs [1, -4 * m, 4 * m * m + d * d])) = L at n21 n11 n19
  obtain ⟨l', e', r'⟩ := loop34 low cs [1, -4 * m, 4 * m * m + d * d] L hs (by simp) (by simp only [List.length_cons, List.length_nil]; omega) n21 n19
  have hi : iStr (dVar 11) L = some (cs.map fun c => .str ⟨#[c]⟩) := by
    unfold iStr
    rw [show dVar 11 L = L 11 from rfl, n11]
    simp only [List.size_toArray]
    rw [if_pos (by omega)]
    rfl
  refine (sCons_eq (l' := l') ?_).trans ?_
  · rw [sFor_eq hi]
    exact e'
  · refine sCons_ret ?_
    show (dVar 19 l').map _ = _
    rw [show dVar 19 l' = l' 19 from rfl, r']
    rfl
end Mine
end
section
open PySem PySem.W PyProof.Rows
namespace Mine
theorem intBits_le {a : Int} {A : Nat} (h : a.natAbs < 2 ^ A) : Builtin.Int.intBits a ≤ A := by
  unfold Builtin.Int.intBits
  split
  · exact Nat.zero_le _
  · rename_i hb
    have hb : a.natAbs ≠ 0 := by simpa using hb
    exact (Nat.log2_lt hb).mpr h
theorem fits_bits {a b : Int} {A B : Nat} (ha : a.natAbs < 2 ^ A) (hb : b.natAbs < 2 ^ B) (h : A + B ≤ 2 ^ 27) : fitsB a b = true := by
  unfold fitsB
  have h1 := intBits_le ha
  have h2 := intBits_le hb
  have : Builtin.Int.intTooBig ((Builtin.Int.intBits a : Int) + (Builtin.Int.intBits b : Int)) = false := by
    unfold Builtin.Int.intTooBig bitsLine
    simp only [decide_eq_false_iff_not]
    omega
  rw [this]
  simp
noncomputable def Lo (n : Nat) (l : List Int) : Prop := ∀ x ∈ l, x.natAbs < 2 ^ n
theorem Lo.mono {n m : Nat} {l : List Int} (h : Lo n l) (hm : n ≤ m) : Lo m l := fun x hx => Nat.lt_of_lt_of_le (h x hx) (Nat.pow_le_pow_right (by decide) hm)
end Mine
end
section
open PySem PySem.W PyProof.Rows
namespace Mine
theorem sub_bits {a b : Int} {n : Nat} (ha : a.natAbs < 2 ^ n) (hb : b.natAbs < 2 ^ n) : (a - b).natAbs < 2 ^ (n + 1) := by
  have : (a - b).natAbs ≤ a.natAbs + b.natAbs := by omega
  rw [Nat.pow_succ]
  omega
theorem mul_bits {a b : Int} {n m : Nat} (ha : a.natAbs < 2 ^ n) (hb : b.natAbs < 2 ^ m) : (a * b).natAbs < 2 ^ (n + m) := by
  rw [Int.natAbs_mul, Nat.pow_add]
  exact Nat.mul_lt_mul'' ha hb
theorem Lo.restStep {n m : Nat} {t0 : Int} {rest taken : List Int} (ht : t0.natAbs < 2 ^ m) (hr : Lo n rest) (hk : Lo m taken) : Lo (n + m + 1) (restStep t0 rest taken) := by
  intro x hx
  have hx' : x ∈ List.zipWith (fun r t => (if 0 < t0 then t0 else -t0) * r - (if 0 < t0 then rest.getD 0 0 else -(rest.getD 0 0)) * t) rest taken := List.mem_of_mem_tail hx
  have key : ∀ (f : Int → Int → Int) (xs ys : List Int) (x : Int), x ∈ List.zipWith f xs ys → ∃ r t, r ∈ xs ∧ t ∈ ys ∧ x = f r t := by
    intro f xs
    induction xs with
    | nil => intro ys x h; simp at h
    | cons a xs ih =>
      intro ys x h
      cases ys with
      | nil => simp at h
      | cons c ys =>
        rw [List.zipWith_cons_cons] at h
        rcases List.mem_cons.mp h with rfl | h
        · exact ⟨a, c, List.mem_cons_self, List.mem_cons_self, rfl⟩
        · obtain ⟨r, t, h1, h2, e⟩ := ih ys x h
          exact ⟨r, t, List.mem_cons_of_mem _ h1, List.mem_cons_of_mem _ h2, e⟩
  obtain ⟨r, t, h1, h2, rfl⟩ := key _ _ _ _ hx'
  have h0 : (rest.getD 0 0).natAbs < 2 ^ n := by
    cases rest with
    | nil => exact Nat.two_pow_pos n
    | cons a l => exact hr a List.mem_cons_self
  have e1 : ((if 0 < t0 then t0 else -t0) * r).natAbs < 2 ^ (n + m) := by
    rw [Nat.add_comm]
    refine mul_bits ?_ (hr r h1)
    split
    · exact ht
    · rw [Int.natAbs_neg]; exact ht
  have e2 : ((if 0 < t0 then rest.getD 0 0 else -(rest.getD 0 0)) * t).natAbs < 2 ^ (n + m) := by
    refine mul_bits ?_ (hk t h2)
    split
    · exact h0
    · rw [Int.natAbs_neg]; exact h0
  exact sub_bits e1 e2
end Mine
end
section
open PySem PySem.W PyProof.Rows
namespace Mine
theorem tCmp_eq {f : V → V → Option Bool} {a b : DE} {l : Loc} {x y : V} {c : Bool} (ha : a l = some x) (hb : b l = some y) (hf : f x y = some c) : tCmp f a b l = some c := by
  unfold tCmp; rw [ha, hb]; exact hf
theorem dIte_eq {t : Loc → Option Bool} {a b : DE} {l : Loc} {c : Bool} (ht : t l = some c) : dIte t a b l = if c then a l else b l := by
  unfold dIte; rw [ht]; rfl
theorem pick35 {i : Nat} {l : Loc} {two other : List Int} {t0 : Int} {tl : List Int} (h18 : l 18 = some (.list (ivs two))) (ht : two = t0 :: tl) (h2 : two.length ≤ 4096) (hi : l i = some (.list (ivs other))) {o0 : Int} {ol : List Int} (ho : other = o0 :: ol) (h3 : other.length ≤ 4096) :
    dIte (tVal (dCall S3 (dCons (dSub (dVar 18) (dInt 0)) (dCons (dInt 0) dNil)))) (dSub (dVar i) (dInt 0)) (dCall S5 (dCons (dSub (dVar i) (dInt 0)) dNil)) l = some (.int (if 0 < t0 then o0 else -o0)) := by
  have e1 : dSub (dVar 18) (dInt 0) l = some (.int t0) := dSub_list (a := dVar 18) (b := dInt 0) (k := 0) h18 rfl (by rw [ivs_length]; exact h2) (by rw [ht]; rfl)
  have e2 : dSub (dVar i) (dInt 0) l = some (.int o0) := dSub_list (a := dVar i) (b := dInt 0) (k := 0) hi rfl (by rw [ivs_length]; exact h3) (by rw [ho]; rfl)
  have e3 : tVal (dCall S3 (dCons (dSub (dVar 18) (dInt 0)) (dCons (dInt 0) dNil))) l = some (decide (0 < t0)) := tVal_eq (by rw [dCall_eq (args2 e1 rfl (b := dInt 0) rfl rfl), S3_int])
  rw [dIte_eq e3]
  by_cases h : 0 < t0
  · simp only [h, decide_true, if_true]; exact e2
  · simp only [h, decide_false, Bool.false_eq_true, if_false]
    rw [dCall_eq (args1 e2 rfl), S5_int]
end Mine
end
section
open PySem PySem.W PyProof.Rows
namespace Mine
theorem zip_range (f : Int → Int → Int) : ∀ (xs ys : List Int), ys.length = xs.length → List.zipWith f xs ys = (List.range xs.length).map fun k => f (xs.getD k 0) (ys.getD k 0)
  | [], [], _ => rfl
  | [], _ :: _, h => by simp at h
  | _ :: _, [], h => by simp at h
  | x :: xs, y :: ys, h => by
    have ih := zip_range f xs ys (by simpa using h)
    rw [List.zipWith_cons_cons, ih, List.length_cons, List.range_succ_eq_map, List.map_cons, List.map_map]
    rfl
theorem restStep_get (t0 : Int) (rest taken : List Int) (hl : taken.length = rest.length) : restStep t0 rest taken = (List.range (rest.length - 1)).map fun k =>
    (if 0 < t0 then t0 else -t0) * rest.getD (k + 1) 0 - (if 0 < t0 then rest.getD 0 0 else -(rest.getD 0 0)) * taken.getD (k + 1) 0 := by
  unfold restStep
  rw [zip_range _ _ _ hl]
  cases h : rest.length with
  | zero => simp
  | succ n =>
    rw [List.range_succ_eq_map, List.map_cons, List.tail_cons, List.map_map, Nat.add_sub_cancel]
    rfl
end Mine
end
section
open PySem PySem.W PyProof.Rows
namespace Mine
theorem dAddL_eq {a b : DE} {l : Loc} {xs ys : List V} (ha : a l = some (.list xs)) (hb : b l = some (.list ys)) (hl : xs.length + ys.length ≤ 4096) : dBin addL a b l = some (.list (xs ++ ys)) := by
  unfold dBin; rw [ha, hb]
  simp [addL, hl]
theorem dMulL_eq {a b : DE} {l : Loc} {x : V} {k : Int} (ha : a l = some (.list [x])) (hb : b l = some (.int k)) (h1 : k ≤ 4096) (h2 : -4096 ≤ k) : dBin mulL a b l = some (.list (List.replicate k.toNat x)) := by
  unfold dBin; rw [ha, hb]
  simp [mulL, h1, h2]
noncomputable def comp35 : DE := dComp 8 (iRange (dCons (dInt 1) (dCons (dCallL lenS (dConsL (dVar 24) dNil)) dNil))) tAll
                  (dCall S6
                    (dCons (dCall S10 (dCons (dVar 25) (dCons (dSub (dVar 24) (dVar 8)) dNil)))
                      (dCons (dCall S10 (dCons (dVar 26) (dCons (dSub (dVar 27) (dVar 8)) dNil))) dNil)))
theorem comp35_eq {l : Loc} {w p : Int} {rest taken : List Int} {n m : Nat} (h24 : l 24 = some (.list (ivs rest))) (h25 : l 25 = some (.int w)) (h26 : l 26 = some (.int p)) (h27 : l 27 = some (.list (ivs taken))) (hl : taken.length = rest.length) (hr : rest.length ≤ 4096)
    (hw : w.natAbs < 2 ^ m) (hp : p.natAbs < 2 ^ n) (br : Lo n rest) (bt : Lo m taken) (hnm : n + m ≤ 2 ^ 27) : comp35 l = some (.list (ivs ((List.range (rest.length - 1)).map fun k => w * rest.getD (k + 1) 0 - p * taken.getD (k + 1) 0))) := by
  have elen := lenL_list (a := dVar 24) (l := l) (xs := ivs rest) h24 (by rw [ivs_length]; exact hr)
  rw [ivs_length] at elen
  have er : iRange (dCons (dInt 1) (dCons (dCallL lenS (dConsL (dVar 24) dNil)) dNil)) l = some (rangeL 1 (rest.length - 1)) := by
    unfold iRange
    rw [args2 (a := dInt 1) rfl rfl elen rfl, Option.bind_some, rangeV_two _ _ (by omega)]
    congr 2
    omega
  unfold comp35 dComp
  rw [er, Option.bind_some, compL_map (fun _ => true) (fun y => match y with | .int k => .int (w * rest.getD k.toNat 0 - p * taken.getD k.toNat 0) | v => v) _ (fun _ _ => rfl) (fun y hy _ => ?_)]
  · rw [List.filter_eq_self.mpr (fun _ _ => rfl)]
    simp only [Option.map_some, Option.some.injEq, V.list.injEq]
    unfold ivs rangeL
    rw [List.map_map, List.map_map]
    apply List.map_congr_left
    intro k hk
    have : (1 + (k : Int)).toNat = k + 1 := by omega
    simp only [Function.comp, this]
  · obtain ⟨k, hk, rfl⟩ := rangeL_mem hy
    have a24 : upd l 8 (.int (1 + (k : Int))) 24 = some (.list (ivs rest)) := by rw [upd_ne _ _ (by decide)]; exact h24
    have a25 : upd l 8 (.int (1 + (k : Int))) 25 = some (.int w) := by rw [upd_ne _ _ (by decide)]; exact h25
    have a26 : upd l 8 (.int (1 + (k : Int))) 26 = some (.int p) := by rw [upd_ne _ _ (by decide)]; exact h26
    have a27 : upd l 8 (.int (1 + (k : Int))) 27 = some (.list (ivs taken)) := by rw [upd_ne _ _ (by decide)]; exact h27
    have a8 : upd l 8 (.int (1 + (k : Int))) 8 = some (.int ((k + 1 : Nat) : Int)) := by rw [upd_self]; congr 2; omega
    generalize upd l 8 (.int (1 + (k : Int))) = L at a24 a25 a26 a27 a8
    have e1 : dSub (dVar 24) (dVar 8) L = some (.int (rest[k + 1]'(by omega))) := dSub_list (a := dVar 24) (b := dVar 8) a24 a8 (by rw [ivs_length]; exact hr) (ivs_get rest _ (by omega))
    have e2 : dSub (dVar 27) (dVar 8) L = some (.int (taken[k + 1]'(by omega))) := dSub_list (a := dVar 27) (b := dVar 8) a27 a8 (by rw [ivs_length]; omega) (ivs_get taken _ (by omega))
    have m1 : dCall S10 (dCons (dVar 25) (dCons (dSub (dVar 24) (dVar 8)) dNil)) L = some (.int (w * rest[k + 1]'(by omega))) := by
      rw [dCall_eq (args2 (a := dVar 25) a25 rfl e1 rfl)]
      exact S10_int _ _ (fits_bits hw (br _ (List.getElem_mem _)) (by omega))
    have m2 : dCall S10 (dCons (dVar 26) (dCons (dSub (dVar 27) (dVar 8)) dNil)) L = some (.int (p * taken[k + 1]'(by omega))) := by
      rw [dCall_eq (args2 (a := dVar 26) a26 rfl e2 rfl)]
      exact S10_int _ _ (fits_bits hp (bt _ (List.getElem_mem _)) hnm)
    refine ⟨?_, rfl⟩
    rw [dCall_eq (args2 m1 rfl m2 rfl), S6_int]
    have : (1 + (k : Int)).toNat = k + 1 := by omega
    simp only [this]
    rw [show rest.getD (k + 1) 0 = rest[k + 1]'(by omega) by simp [List.getD, show k + 1 < rest.length by omega], show taken.getD (k + 1) 0 = taken[k + 1]'(by omega) by simp [List.getD, show k + 1 < taken.length by omega]]
end Mine
end
section
open PySem PySem.W PyProof.Rows
namespace Mine
noncomputable def body35 : DS := (sCons
          (sSet 26
            (dIte (tVal (dCall S3 (dCons (dSub (dVar 18) (dInt 0)) (dCons (dInt 0) dNil)))) (dSub (dVar 24) (dInt 0))
              (dCall S5 (dCons (dSub (dVar 24) (dInt 0)) dNil))))
          (sCons
            (sSet 27
              (dBin addL (dVar 18)
                (dBin mulL (dList (dCons (dInt 0) dNil))
                  (dBin subV (dCallL lenS (dConsL (dVar 24) dNil)) (dCallL lenS (dConsL (dVar 18) dNil))))))
            (sCons (sSet 24 comp35) sNil)))
theorem body35_eq {l : Loc} {two rest : List Int} {t0 : Int} {tl : List Int} {n m : Nat} (ht : two = t0 :: tl) (h18 : l 18 = some (.list (ivs two))) (h24 : l 24 = some (.list (ivs rest))) (h25 : l 25 = some (.int (if 0 < t0 then t0 else -t0))) (hle : two.length ≤ rest.length) (hr : rest.length ≤ 4000)
    (br : Lo n rest) (bt : Lo m two) (hnm : n + m ≤ 2 ^ 27) : ∃ l', body35 l = some (.next l') ∧ l' 18 = l 18 ∧ l' 25 = l 25 ∧ l' 24 = some (.list (ivs (restStep t0 rest (two ++ List.replicate (rest.length - two.length) 0)))) := by
  obtain ⟨r0, rl, hr0⟩ : ∃ r0 rl, rest = r0 :: rl := by
    cases rest with
    | nil => rw [ht] at hle; simp at hle
    | cons a r => exact ⟨a, r, rfl⟩
  have e26 := pick35 (i := 24) h18 ht (by omega) h24 hr0 (by omega)
  unfold body35
  rw [sCons_eq (sSet_eq e26 rfl)]
  have b18 : upd l 26 (.int (if 0 < t0 then r0 else -r0)) 18 = some (.list (ivs two)) := by rw [upd_ne _ _ (by decide)]; exact h18
  have b24 : upd l 26 (.int (if 0 < t0 then r0 else -r0)) 24 = some (.list (ivs rest)) := by rw [upd_ne _ _ (by decide)]; exact h24
  have b25 : upd l 26 (.int (if 0 < t0 then r0 else -r0)) 25 = some (.int (if 0 < t0 then t0 else -t0)) := by rw [upd_ne _ _ (by decide)]; exact h25
  have b26 : upd l 26 (.int (if 0 < t0 then r0 else -r0)) 26 = some (.int (if 0 < t0 then r0 else -r0)) := upd_self _ _ _
  have q18 : upd l 26 (.int (if 0 < t0 then r0 else -r0)) 18 = l 18 := upd_ne _ _ (by decide)
  have q25 : upd l 26 (.int (if 0 < t0 then r0 else -r0)) 25 = l 25 := upd_ne _ _ (by decide)
  generalize upd l 26 (.int (if 0 < t0 then r0 else -r0)) = L at b18 b24 b25 b26 q18 q25
  have n24 := lenL_list (a := dVar 24) (l := L) (xs := ivs rest) b24 (by rw [ivs_length]; omega)
  have n18 := lenL_list (a := dVar 18) (l := L) (xs := ivs two) b18 (by rw [ivs_length]; omega)
  rw [ivs_length] at n24 n18
  have e27 : dBin addL (dVar 18) (dBin mulL (dList (dCons (dInt 0) dNil)) (dBin subV (dCallL lenS (dConsL (dVar 24) dNil)) (dCallL lenS (dConsL (dVar 18) dNil)))) L = some (.list (ivs (two ++ List.replicate (rest.length - two.length) 0))) := by
    rw [dAddL_eq (a := dVar 18) b18 (dMulL_eq (x := .int 0) (dList_eq (args1 (a := dInt 0) rfl rfl) (by decide)) (dBin_sub n24 n18) (by omega) (by omega)) (by simp only [ivs_length, List.length_replicate]; omega)]
    have : ((rest.length : Int) - two.length).toNat = rest.length - two.length := by omega
    rw [this]
    simp [ivs]
  rw [sCons_eq (sSet_eq e27 rfl)]
  refine ⟨_, (sCons_eq (sSet_eq (comp35_eq (l := upd L 27 (.list (ivs (two ++ List.replicate (rest.length - two.length) 0)))) (w := if 0 < t0 then t0 else -t0) (p := if 0 < t0 then r0 else -r0) (rest := rest) (taken := two ++ List.replicate (rest.length - two.length) 0) (n := n) (m := m) (by rw [upd_ne _ _ (by decide)]; exact b24) (by rw [upd_ne _ _ (by decide)]; exact b25) (by rw [upd_ne _ _ (by decide)]; exact b26) (upd_self _ _ _)
    (by simp only [List.length_append, List.length_replicate]; omega) (by omega) ?_ ?_ br ?_ hnm) rfl)).trans rfl, ?_, ?_, ?_⟩
  · have := bt t0 (by rw [ht]; exact List.mem_cons_self)
    split
    · exact this
    · rw [Int.natAbs_neg]; exact this
  · have := br r0 (by rw [hr0]; exact List.mem_cons_self)
    split
    · exact this
    · rw [Int.natAbs_neg]; exact this
  · intro x hx
    rcases List.mem_append.mp hx with h | h
    · exact bt x h
    · rw [List.mem_replicate] at h
      rw [h.2]; exact Nat.two_pow_pos m
  · rw [upd_ne _ _ (by decide), upd_ne _ _ (by decide)]; exact q18
  · rw [upd_ne _ _ (by decide), upd_ne _ _ (by decide)]; exact q25
  · rw [upd_self, restStep_get _ _ _ (by simp only [List.length_append, List.length_replicate]; omega)]
    have : rest.getD 0 0 = r0 := by rw [hr0]; rfl
    rw [this]
end Mine
end
section
open PySem PySem.W PyProof.Rows
namespace Mine
theorem tGe_len {i j : Nat} {l : Loc} {xs ys : List Int} (hi : l i = some (.list (ivs xs))) (hj : l j = some (.list (ivs ys))) (h1 : xs.length ≤ 4096) (h2 : ys.length ≤ 4096) :
    tCmp geV (dCallL lenS (dConsL (dVar i) dNil)) (dCallL lenS (dConsL (dVar j) dNil)) l = some (decide (ys.length ≤ xs.length)) := by
  have n1 := lenL_list (a := dVar i) (l := l) (xs := ivs xs) hi (by rw [ivs_length]; exact h1)
  have n2 := lenL_list (a := dVar j) (l := l) (xs := ivs ys) hj (by rw [ivs_length]; exact h2)
  rw [ivs_length] at n1 n2
  refine tCmp_eq n1 n2 ?_
  simp [geV]
theorem restStep_len' (t0 : Int) (rest taken : List Int) (hl : taken.length = rest.length) : (restStep t0 rest taken).length = rest.length - 1 := by
  rw [restStep_get _ _ _ hl]; simp
theorem loop35 {two : List Int} {t0 : Int} {tl : List Int} {m : Nat} (ht : two = t0 :: tl) (bt : Lo m two) : ∀ (fuel : Nat) (n : Nat) (rest : List Int) (l : Loc), rest.length < fuel → rest.length ≤ 4000 → two.length ≤ 4000 → Lo n rest → n + (rest.length + 1 - two.length) * (m + 1) ≤ 2 ^ 27 →
    l 18 = some (.list (ivs two)) → l 24 = some (.list (ivs rest)) → l 25 = some (.int (if 0 < t0 then t0 else -t0)) →
    ∃ l', whileD (tCmp geV (dCallL lenS (dConsL (dVar 24) dNil)) (dCallL lenS (dConsL (dVar 18) dNil))) body35 fuel l = some (.next l') ∧ l' 18 = l 18 ∧ l' 24 = some (.list (ivs (restLoop t0 two fuel rest)))
  | 0, n, rest, l, hf, _, _, _, _, _, _, _ => absurd hf (Nat.not_lt_zero _)
  | fuel + 1, n, rest, l, hf, hr, h2, br, hb, h18, h24, h25 => by
    have ht0 := tGe_len (i := 24) (j := 18) h24 h18 (by omega) (by omega)
    unfold whileD restLoop
    rw [ht0, Option.bind_some]
    by_cases hle : two.length ≤ rest.length
    · simp only [hle, decide_true, if_true]
      obtain ⟨q, hq⟩ : ∃ q, rest.length = two.length + q := ⟨rest.length - two.length, by omega⟩
      have hexp : (rest.length + 1 - two.length) * (m + 1) = q * (m + 1) + (m + 1) := by
        rw [show rest.length + 1 - two.length = q + 1 by omega]; exact Nat.succ_mul _ _
      obtain ⟨l1, e1, q18, q25, q24⟩ := body35_eq (n := n) (m := m) ht h18 h24 h25 hle hr br bt (by omega)
      rw [e1, Option.bind_some]
      have hlen : (two ++ List.replicate (rest.length - two.length) 0).length = rest.length := by simp only [List.length_append, List.length_replicate]; omega
      have bt' : Lo m (two ++ List.replicate (rest.length - two.length) 0) := fun x hx => by
        rcases List.mem_append.mp hx with h | h
        · exact bt x h
        · rw [List.mem_replicate] at h
          rw [h.2]; exact Nat.two_pow_pos m
      have sl := restStep_len' t0 rest _ hlen
      have h2p : 0 < two.length := by rw [ht]; simp
      obtain ⟨l', e', r18, r24⟩ := loop35 ht bt fuel (n + m + 1) (restStep t0 rest (two ++ List.replicate (rest.length - two.length) 0)) l1 (by rw [sl]; omega) (by rw [sl]; omega) h2 (Lo.restStep (bt t0 (by rw [ht]; exact List.mem_cons_self)) br bt') (by rw [sl, show rest.length - 1 + 1 - two.length = q by omega]; omega) (q18.trans h18) q24 (q25.trans h25)
      exact ⟨l', e', r18.trans q18, r24⟩
    · simp only [hle, decide_false, Bool.false_eq_true, if_false]
      exact ⟨l, rfl, rfl, h24⟩
end Mine
end
section
open PySem PySem.W PyProof.Rows
namespace Mine
theorem restLoop_fuel {two : List Int} (t0 : Int) (h2 : 0 < two.length) : ∀ (f g : Nat) (rest : List Int), rest.length < f → rest.length < g → restLoop t0 two f rest = restLoop t0 two g rest
  | 0, _, _, h, _ => absurd h (Nat.not_lt_zero _)
  | _ + 1, 0, _, _, h => absurd h (Nat.not_lt_zero _)
  | f + 1, g + 1, rest, hf, hg => by
    unfold restLoop
    by_cases hle : two.length ≤ rest.length
    · rw [if_pos hle, if_pos hle]
      have sl := restStep_len' t0 rest (two ++ List.replicate (rest.length - two.length) 0) (by simp only [List.length_append, List.length_replicate]; omega)
      exact restLoop_fuel t0 h2 f g _ (by rw [sl]; omega) (by rw [sl]; omega)
    · rw [if_neg hle, if_neg hle]
theorem restLoop_len {two : List Int} (t0 : Int) : ∀ (f : Nat) (rest : List Int), (restLoop t0 two f rest).length ≤ rest.length
  | 0, _ => Nat.le_refl _
  | f + 1, rest => by
    unfold restLoop
    split
    · rename_i hle
      have sl := restStep_len' t0 rest (two ++ List.replicate (rest.length - two.length) 0) (by simp only [List.length_append, List.length_replicate]; omega)
      exact Nat.le_trans (restLoop_len t0 f _) (by rw [sl]; omega)
    · exact Nat.le_refl _
theorem Lo_restLoop {two : List Int} {t0 : Int} {m : Nat} (b0 : t0.natAbs < 2 ^ m) (h2 : 0 < two.length) (bt : Lo m two) : ∀ (f n : Nat) (rest : List Int), Lo n rest → Lo (n + (rest.length + 1 - two.length) * (m + 1)) (restLoop t0 two f rest)
  | 0, n, rest, br => br.mono (Nat.le_add_right _ _)
  | f + 1, n, rest, br => by
    unfold restLoop
    split
    · rename_i hle
      have hlen : (two ++ List.replicate (rest.length - two.length) 0).length = rest.length := by simp only [List.length_append, List.length_replicate]; omega
      have bt' : Lo m (two ++ List.replicate (rest.length - two.length) 0) := fun x hx => by
        rcases List.mem_append.mp hx with h | h
        · exact bt x h
        · rw [List.mem_replicate] at h
          rw [h.2]; exact Nat.two_pow_pos m
      have sl := restStep_len' t0 rest _ hlen
      obtain ⟨q, hq⟩ : ∃ q, rest.length = two.length + q := ⟨rest.length - two.length, by omega⟩
      have hexp : (rest.length + 1 - two.length) * (m + 1) = q * (m + 1) + (m + 1) := by
        rw [show rest.length + 1 - two.length = q + 1 by omega]; exact Nat.succ_mul _ _
      refine (Lo_restLoop b0 h2 bt f (n + m + 1) _ (Lo.restStep b0 br bt')).mono ?_
      rw [sl, show rest.length - 1 + 1 - two.length = q by omega]
      omega
    · exact br.mono (Nat.le_add_right _ _)
theorem Lo_restF {one two : List Int} {n m : Nat} (h2 : 0 < two.length) (bo : Lo n one) (bt : Lo m two) : Lo (n + (one.length + 1 - two.length) * (m + 1)) (restF one two) := by
  intro x hx
  unfold restF at hx
  obtain ⟨y, hy, rfl⟩ := List.mem_map.mp hx
  rw [Int.natAbs_neg]
  refine Lo_restLoop (t0 := two.getD 0 0) ?_ h2 bt _ n one bo y ((List.dropWhile_sublist _).mem hy)
  cases two with
  | nil => simp at h2
  | cons a r => exact bt a List.mem_cons_self
theorem neL_ints (a b : List Int) : neL (.list (ivs a)) (.list (ivs b)) = some (!decide (a = b)) := by
  simp only [neL, intsV_ivs]
theorem strip35 : ∀ (fuel : Nat) (rest : List Int) (l : Loc), rest.length < fuel → rest.length ≤ 4000 → l 24 = some (.list (ivs rest)) →
    ∃ l', whileD (tAnd (tCmp neL (dVar 24) (dList dNil)) (tCmp eqV (dSub (dVar 24) (dInt 0)) (dInt 0))) (sCons (sSet 24 (dCut (dVar 24) (some (dInt 1)) none)) sNil) fuel l = some (.next l') ∧ l' 24 = some (.list (ivs (rest.dropWhile (fun c => c == 0))))
  | 0, _, _, h, _, _ => absurd h (Nat.not_lt_zero _)
  | fuel + 1, [], l, hf, hr, h24 => by
    refine ⟨l, ?_, h24⟩
    have e1 : tCmp neL (dVar 24) (dList dNil) l = some false := tCmp_eq (a := dVar 24) h24 (b := dList dNil) (y := .list []) rfl rfl
    unfold whileD tAnd
    rw [e1]; rfl
  | fuel + 1, c :: rest, l, hf, hr, h24 => by
    have e1 : tCmp neL (dVar 24) (dList dNil) l = some true := tCmp_eq (a := dVar 24) h24 (b := dList dNil) (y := .list []) rfl (by
      have := neL_ints (c :: rest) []
      exact this.trans (by simp))
    have e2 : tCmp eqV (dSub (dVar 24) (dInt 0)) (dInt 0) l = some (c == 0) := tCmp_eq (dSub_list (a := dVar 24) (b := dInt 0) (k := 0) (v := .int c) h24 rfl (by rw [ivs_length]; omega) rfl) (b := dInt 0) rfl rfl
    have e3 : tAnd (tCmp neL (dVar 24) (dList dNil)) (tCmp eqV (dSub (dVar 24) (dInt 0)) (dInt 0)) l = some (c == 0) := by
      unfold tAnd
      rw [e1, Option.bind_some, if_pos rfl, e2]
    unfold whileD
    rw [e3, Option.bind_some, List.dropWhile_cons]
    cases hc : (c == 0)
    · exact ⟨l, rfl, h24⟩
    · have e4 : dCut (dVar 24) (some (dInt 1)) none l = some (.list (ivs rest)) := by
        unfold dCut
        rw [show dVar 24 l = l 24 from rfl, h24]
        have hl : (ivs (c :: rest)).length ≤ 4096 := by rw [ivs_length]; omega
        simp only [Option.bind_some, dPart, dInt, cutV, hl, if_true]
        rfl
      have e5 : sCons (sSet 24 (dCut (dVar 24) (some (dInt 1)) none)) sNil l = some (.next (upd l 24 (.list (ivs rest)))) := (sCons_eq (sSet_eq e4 rfl)).trans rfl
      simp only [if_true, e5, Option.bind_some]
      simp only [List.length_cons] at hf hr
      exact strip35 fuel rest _ (by omega) (by omega) (upd_self _ _ _)
end Mine
end
section
open PySem PySem.W PyProof.Rows
namespace Mine
theorem S35_eq (one two : List Int) (t0 : Int) (tl : List Int) (n m : Nat) (ht : two = t0 :: tl) (h1 : one.length ≤ 60) (h2 : two.length ≤ 60) (h0 : 0 < one.length) (bo : Lo n one) (bt : Lo m two) (hb : n + (one.length + 1 - two.length) * (m + 1) ≤ 2 ^ 27) : S35 [.list (ivs one), .list (ivs two)] = some (.list (ivs (restF one two))) := by
  refine defS_eq (ps := [17, 18]) (den := den35) rfl ?_
  have b : bindP [17, 18] [.list (ivs one), .list (ivs two)] l0 = upd (upd l0 17 (.list (ivs one))) 18 (.list (ivs two)) := rfl
  rw [b]
  have h17 : upd (upd l0 17 (.list (ivs one))) 18 (.list (ivs two)) 17 = some (.list (ivs one)) := rfl
  have h18 : upd (upd l0 17 (.list (ivs one))) 18 (.list (ivs two)) 18 = some (.list (ivs two)) := rfl
  generalize upd (upd l0 17 (.list (ivs one))) 18 (.list (ivs two)) = l at h17 h18
  unfold den35
  rw [sCons_eq (sSet_eq (a := dVar 17) (v := .list (ivs one)) h17 rfl)]
  have n18 : upd l 24 (.list (ivs one)) 18 = some (.list (ivs two)) := by rw [upd_ne _ _ (by decide)]; exact h18
  have n24 : upd l 24 (.list (ivs one)) 24 = some (.list (ivs one)) := upd_self _ _ _
  generalize upd l 24 (.list (ivs one)) = L at n18 n24
  have e25 := pick35 (i := 18) n18 ht (by omega) n18 ht (by omega)
  rw [sCons_eq (sSet_eq e25 rfl)]
  have m18 : upd L 25 (.int (if 0 < t0 then t0 else -t0)) 18 = some (.list (ivs two)) := by rw [upd_ne _ _ (by decide)]; exact n18
  have m24 : upd L 25 (.int (if 0 < t0 then t0 else -t0)) 24 = some (.list (ivs one)) := by rw [upd_ne _ _ (by decide)]; exact n24
  have m25 : upd L 25 (.int (if 0 < t0 then t0 else -t0)) 25 = some (.int (if 0 < t0 then t0 else -t0)) := upd_self _ _ _
  generalize upd L 25 (.int (if 0 < t0 then t0 else -t0)) = K at m18 m24 m25
  obtain ⟨l1, e1, q18, q24⟩ := loop35 ht bt 64 n one K (by omega) (by omega) (by omega) bo hb m18 m24 m25
  have e1' : whileD (tCmp geV (dCallL lenS (dConsL (dVar 24) dNil)) (dCallL lenS (dConsL (dVar 18) dNil))) body35 64 K = some (.next l1) := e1
  refine (sCons_eq (l' := l1) e1').trans ?_
  have hlen := restLoop_len (two := two) t0 64 one
  obtain ⟨l2, e2, r24⟩ := strip35 64 (restLoop t0 two 64 one) l1 (by omega) (by omega) q24
  rw [sCons_eq e2]
  have hdl : ((restLoop t0 two 64 one).dropWhile (fun c => c == 0)).length ≤ 60 := Nat.le_trans (List.dropWhile_sublist _).length_le (by omega)
  refine sCons_ret ?_
  have hc : dComp 28 (iList (dVar 24)) tAll (dCall S5 (dCons (dVar 28) dNil)) l2 = some (.list (ivs (restF one two))) := by
    unfold dComp
    rw [iList_eq (a := dVar 24) r24 (by rw [ivs_length]; omega), Option.bind_some, compL_map (fun _ => true) (fun y => match y with | .int k => .int (-k) | v => v) _ (fun _ _ => rfl) (fun y hy _ => ?_)]
    · rw [List.filter_eq_self.mpr (fun _ _ => rfl)]
      have : two.getD 0 0 = t0 := by rw [ht]; rfl
      unfold restF
      rw [this, restLoop_fuel t0 (by rw [ht]; simp) (one.length + 1) 64 one (by omega) (by omega)]
      unfold ivs
      rw [List.map_map, List.map_map]
      rfl
    · obtain ⟨k, hk, rfl⟩ := List.mem_map.mp hy
      refine ⟨?_, rfl⟩
      have a28 : dVar 28 (upd l2 28 (.int k)) = some (.int k) := upd_self l2 28 (.int k)
      rw [dCall_eq (args1 a28 rfl), S5_int]
  unfold sRet
  rw [hc]
  rfl
end Mine
end
section
open PySem PySem.W PyProof.Rows
namespace Mine
theorem dSub_ownN {a b : DE} {l : Loc} {xs : List V} {k : Nat} {v : V} (ha : a l = some (.own xs)) (hb : b l = some (.int (-((k + 1 : Nat) : Int)))) (hl : xs.length ≤ 4096) (hk : k + 1 ≤ xs.length) (hv : xs[xs.length - (k + 1)]? = some v) : dSub a b l = some v := by
  unfold dSub
  rw [ha, hb]
  simp only [Option.bind_some, itemV, hl, if_true]
  rw [if_neg (by omega), if_pos (by omega), show (-((k + 1 : Nat) : Int) + (xs.length : Int)).toNat = xs.length - (k + 1) by omega, hv]
theorem dSub_listN {a b : DE} {l : Loc} {xs : List V} {k : Nat} {v : V} (ha : a l = some (.list xs)) (hb : b l = some (.int (-((k + 1 : Nat) : Int)))) (hl : xs.length ≤ 4096) (hk : k + 1 ≤ xs.length) (hv : xs[xs.length - (k + 1)]? = some v) : dSub a b l = some v := by
  unfold dSub
  rw [ha, hb]
  simp only [Option.bind_some, itemV, hl, if_true]
  rw [if_neg (by omega), if_pos (by omega), show (-((k + 1 : Nat) : Int) + (xs.length : Int)).toNat = xs.length - (k + 1) by omega, hv]
theorem derivF_range : ∀ l : List Int, derivF l = (List.range (l.length - 1)).map fun k => l.getD k 0 * ((l.length : Int) - 1 - k)
  | [] => rfl
  | [_] => rfl
  | a :: b :: r => by
    unfold derivF
    rw [derivF_range (b :: r)]
    simp only [List.length_cons, Nat.add_sub_cancel]
    rw [List.range_succ_eq_map, List.map_cons, List.map_map]
    congr 1
    · show a * _ = a * _
      congr 1
      omega
    · apply List.map_congr_left
      intro k _
      show (b :: r).getD k 0 * _ = (b :: r).getD k 0 * _
      congr 1
      simp only [Nat.succ_eq_add_one]
      omega
noncomputable def comp36 : DE := dComp 8 (iRange (dCons (dVar 29) dNil)) tAll (dCall S10 (dCons (dSub (dVar 19) (dVar 8)) (dCons (dBin subV (dVar 29) (dVar 8)) dNil)))
theorem comp36_eq {l : Loc} {p : List Int} (h19 : l 19 = some (.list (ivs p))) (h29 : l 29 = some (.int ((p.length : Int) - 1))) (h0 : 0 < p.length) (hp : p.length ≤ 4096) : comp36 l = some (.list (ivs (derivF p))) := by
  have er : iRange (dCons (dVar 29) dNil) l = some (rangeL 0 (p.length - 1)) := by
    refine iRange1 (a := dVar 29) (l := l) (n := p.length - 1) ?_ (by omega)
    rw [show dVar 29 l = l 29 from rfl, h29]
    congr 2
    omega
  unfold comp36 dComp
  rw [er, Option.bind_some, compL_map (fun _ => true) (fun y => match y with | .int k => .int (p.getD k.toNat 0 * ((p.length : Int) - 1 - k)) | v => v) _ (fun _ _ => rfl) (fun y hy _ => ?_)]
  · rw [List.filter_eq_self.mpr (fun _ _ => rfl), derivF_range]
    simp only [Option.map_some, Option.some.injEq, V.list.injEq]
    unfold ivs rangeL
    rw [List.map_map, List.map_map]
    apply List.map_congr_left
    intro k hk
    have : (0 + (k : Int)).toNat = k := by omega
    simp only [Function.comp, this, Int.zero_add, Int.toNat_natCast]
  · obtain ⟨k, hk, rfl⟩ := rangeL_mem hy
    have a19 : upd l 8 (.int (0 + (k : Int))) 19 = some (.list (ivs p)) := by rw [upd_ne _ _ (by decide)]; exact h19
    have a29 : upd l 8 (.int (0 + (k : Int))) 29 = some (.int ((p.length : Int) - 1)) := by rw [upd_ne _ _ (by decide)]; exact h29
    have a8 : upd l 8 (.int (0 + (k : Int))) 8 = some (.int (k : Int)) := by rw [upd_self]; congr 2; omega
    generalize upd l 8 (.int (0 + (k : Int))) = L at a19 a29 a8
    refine ⟨?_, rfl⟩
    have e1 : dSub (dVar 19) (dVar 8) L = some (.int (p[k]'(by omega))) := dSub_list (a := dVar 19) (b := dVar 8) a19 a8 (by rw [ivs_length]; exact hp) (ivs_get p _ (by omega))
    rw [dCall_eq (args2 e1 rfl (dBin_sub (a := dVar 29) (b := dVar 8) a29 a8) rfl), S10_int _ _ (fits_right (by omega))]
    have : (0 + (k : Int)).toNat = k := by omega
    simp only [this, Int.zero_add, Int.toNat_natCast]
    rw [show p.getD k 0 = p[k]'(by omega) by simp [List.getD, show k < p.length by omega]]
noncomputable def body36 : DS := (sCons (sApp 30 (dVar 24)) (sCons (sSet 24 (dCall S35 (dCons (dSub (dVar 30) (dNeg (dInt 2))) (dCons (dSub (dVar 30) (dNeg (dInt 1))) dNil)))) sNil))
noncomputable def rows (G : List (List Int)) : List V := G.map fun p => .list (ivs p)
theorem rows_length (G : List (List Int)) : (rows G).length = G.length := by simp [rows]
theorem pow3 (d : Nat) (h : 0 < d) : d + 2 ≤ 3 ^ d := by
  induction d with
  | zero => omega
  | succ d ih =>
    rcases Nat.eq_zero_or_pos d with q | q
    · subst q; decide
    · have := ih q
      rw [Nat.pow_succ]
      omega
theorem bits_step {m la lb : Nat} (h : lb < la) (hc : (m + 1) * 3 ^ la ≤ 2 ^ 26) : m + (la + 1 - lb) * (m + 1) ≤ 2 ^ 27 ∧ (m + (la + 1 - lb) * (m + 1) + 1) * 3 ^ lb ≤ 2 ^ 26 := by
  obtain ⟨d, rfl⟩ : ∃ d, la = lb + d := ⟨la - lb, by omega⟩
  have e : m + (lb + d + 1 - lb) * (m + 1) + 1 = (m + 1) * (d + 2) := by
    have e2 : (m + 1) * (d + 2) = (d + 1) * (m + 1) + (m + 1) := by rw [Nat.mul_comm]; exact Nat.succ_mul (d + 1) (m + 1)
    rw [show lb + d + 1 - lb = d + 1 by omega, e2]
    omega
  have k : (m + 1) * (d + 2) * 3 ^ lb ≤ 2 ^ 26 := by
    refine Nat.le_trans ?_ hc
    rw [Nat.pow_add, Nat.mul_comm (3 ^ lb), ← Nat.mul_assoc]
    exact Nat.mul_le_mul_right _ (Nat.mul_le_mul_left _ (pow3 d (by omega)))
  have p : 0 < 3 ^ lb := Nat.pow_pos (by decide)
  have q : (m + 1) * (d + 2) ≤ (m + 1) * (d + 2) * 3 ^ lb := Nat.le_mul_of_pos_right _ p
  refine ⟨?_, by rw [e]; exact k⟩
  have : (2 : Nat) ^ 26 ≤ 2 ^ 27 := by decide
  omega
theorem loop36 : ∀ (n fuel m : Nat) (pre : List (List Int)) (a : List Int) (t0 : Int) (tl : List Int) (l : Loc), (t0 :: tl).length ≤ n → n < fuel → t0 ≠ 0 → (t0 :: tl).length < a.length → a.length ≤ 60 → pre.length + 2 + n ≤ 4000 → Lo m a → Lo m (t0 :: tl) → (m + 1) * 3 ^ a.length ≤ 2 ^ 26 →
    l 30 = some (.own (rows (pre ++ [a, t0 :: tl]))) → l 24 = some (.list (ivs (restF a (t0 :: tl)))) →
    ∃ l', whileD (tCmp neL (dVar 24) (dList dNil)) body36 fuel l = some (.next l') ∧ l' 30 = some (.own (rows (pre ++ chainGo n a (t0 :: tl))))
  | 0, fuel, m, pre, a, t0, tl, l, hn, _, _, _, _, _, _, _, _, _, _ => absurd hn (by simp)
  | n + 1, 0, m, pre, a, t0, tl, l, hn, hf, _, _, _, _, _, _, _, _, _ => absurd hf (by omega)
  | n + 1, fuel + 1, m, pre, a, t0, tl, l, hn, hf, ht, hlt, ha, hpre, ba, bt, hc, h30, h24 => by
    obtain ⟨_, hl, hh⟩ := restF_spec a t0 tl ht
    have et : tCmp neL (dVar 24) (dList dNil) l = some (!decide (restF a (t0 :: tl) = [])) := tCmp_eq (a := dVar 24) h24 (b := dList dNil) (y := .list []) rfl (neL_ints _ [])
    unfold whileD chainGo
    rw [et, Option.bind_some]
    rcases hh with hh | ⟨r, rl, hh, hr⟩
    · rw [hh]
      exact ⟨l, rfl, h30⟩
    · rw [hh] at h24 hl ⊢
      simp only [reduceCtorEq, decide_false, Bool.not_false, if_true]
      have hrl : (rows (pre ++ [a, t0 :: tl])).length = pre.length + 2 := by rw [rows_length]; simp
      have n30 : upd (upd l 30 (.own (rows (pre ++ [a, t0 :: tl]) ++ [.list (ivs (r :: rl))]))) 30 (.own (rows (pre ++ [a, t0 :: tl]) ++ [.list (ivs (r :: rl))])) 30 = some (.own (rows ((pre ++ [a]) ++ [t0 :: tl, r :: rl]))) := by
        rw [upd_self]
        simp [rows]
      have e1 : sApp 30 (dVar 24) l = some (.next (upd (upd l 30 (.own (rows (pre ++ [a, t0 :: tl]) ++ [.list (ivs (r :: rl))]))) 30 (.own (rows (pre ++ [a, t0 :: tl]) ++ [.list (ivs (r :: rl))])))) := sApp_eq (a := dVar 24) h30 h24 rfl (by rw [hrl]; omega)
      generalize upd (upd l 30 (.own (rows (pre ++ [a, t0 :: tl]) ++ [.list (ivs (r :: rl))]))) 30 (.own (rows (pre ++ [a, t0 :: tl]) ++ [.list (ivs (r :: rl))])) = L at n30 e1
      have hLl : (rows ((pre ++ [a]) ++ [t0 :: tl, r :: rl])).length = pre.length + 3 := by rw [rows_length]; simp
      have i2 : dSub (dVar 30) (dNeg (dInt 2)) L = some (.list (ivs (t0 :: tl))) := by
        refine dSub_ownN (a := dVar 30) (k := 1) n30 rfl (by rw [hLl]; omega) (by rw [hLl]; omega) ?_
        rw [hLl]
        simp [rows]
      have i1 : dSub (dVar 30) (dNeg (dInt 1)) L = some (.list (ivs (r :: rl))) := by
        refine dSub_ownN (a := dVar 30) (k := 0) n30 rfl (by rw [hLl]; omega) (by rw [hLl]; omega) ?_
        rw [hLl]
        simp [rows]
      obtain ⟨b1, b2⟩ := bits_step hlt hc
      have br : Lo (m + (a.length + 1 - (t0 :: tl).length) * (m + 1)) (r :: rl) := by rw [← hh]; exact Lo_restF (by simp) ba bt
      obtain ⟨c1, c2⟩ := bits_step hl b2
      have e2 : dCall S35 (dCons (dSub (dVar 30) (dNeg (dInt 2))) (dCons (dSub (dVar 30) (dNeg (dInt 1))) dNil)) L = some (.list (ivs (restF (t0 :: tl) (r :: rl)))) := by
        rw [dCall_eq (args2 i2 rfl i1 rfl)]
        exact S35_eq _ _ r rl _ _ rfl (by omega) (by omega) (by simp) (bt.mono (Nat.le_add_right _ _)) br c1
      have eb : body36 l = some (.next (upd L 24 (.list (ivs (restF (t0 :: tl) (r :: rl)))))) := by
        unfold body36
        rw [sCons_eq e1]
        exact (sCons_eq (sSet_eq e2 rfl)).trans rfl
      rw [eb, Option.bind_some]
      have hl2 := List.length_cons (a := t0) (as := tl)
      obtain ⟨l', e', r'⟩ := loop36 n fuel _ (pre ++ [a]) (t0 :: tl) r rl (upd L 24 (.list (ivs (restF (t0 :: tl) (r :: rl))))) (by omega) (by omega) hr hl (by omega) (by simp only [List.length_append, List.length_cons, List.length_nil]; omega) (bt.mono (Nat.le_add_right _ _)) br b2
        (by rw [upd_ne _ _ (by decide)]; exact n30) (upd_self _ _ _)
      refine ⟨l', e', ?_⟩
      rw [r']
      simp
end Mine
end
section
open PySem PySem.W PyProof.Rows
namespace Mine
theorem Lo_deriv {p : List Int} {m : Nat} (h : Lo m p) (hl : p.length ≤ 63) : Lo (m + 6) (derivF p) := by
  intro x hx
  rw [derivF_range] at hx
  obtain ⟨k, hk, rfl⟩ := List.mem_map.mp hx
  have hk := List.mem_range.mp hk
  refine mul_bits ?_ ?_
  · rw [show p.getD k 0 = p[k]'(by omega) by simp [List.getD, show k < p.length by omega]]
    exact h _ (List.getElem_mem _)
  · have : (2 : Nat) ^ 6 = 64 := by decide
    omega
theorem S36_eq (p : List Int) (m : Nat) (h2 : 2 ≤ p.length) (h7 : p.length ≤ 7) (hh : p.getD 0 0 = 1) (bp : Lo m p) (hm : m ≤ 200) : S36 [.list (ivs p)] = some (.list (rows (chainF p))) := by
  obtain ⟨t0, tl, hd, ht⟩ := derivF_head p h2 hh
  have dl := derivF_length p
  refine defS_eq (ps := [19]) (den := den36) rfl ?_
  have b : bindP [19] [.list (ivs p)] l0 = upd l0 19 (.list (ivs p)) := rfl
  rw [b]
  have h19 : upd l0 19 (.list (ivs p)) 19 = some (.list (ivs p)) := rfl
  have h100 : upd l0 19 (.list (ivs p)) 100 = none := rfl
  generalize upd l0 19 (.list (ivs p)) = l at h19 h100
  have len := lenL_list (a := dVar 19) (l := l) (xs := ivs p) h19 (by rw [ivs_length]; omega)
  rw [ivs_length] at len
  have e29 : dBin subV (dCallL lenS (dConsL (dVar 19) dNil)) (dInt 1) l = some (.int ((p.length : Int) - 1)) := dBin_sub len rfl
  have n19 : upd l 29 (.int ((p.length : Int) - 1)) 19 = some (.list (ivs p)) := by rw [upd_ne _ _ (by decide)]; exact h19
  have n29 : upd l 29 (.int ((p.length : Int) - 1)) 29 = some (.int ((p.length : Int) - 1)) := upd_self _ _ _
  have n100 : upd l 29 (.int ((p.length : Int) - 1)) 100 = none := by rw [upd_ne _ _ (by decide)]; exact h100
  unfold den36
  rw [sCons_eq (sSet_eq e29 rfl)]
  generalize upd l 29 (.int ((p.length : Int) - 1)) = L at n19 n29 n100
  have ec := comp36_eq n19 n29 (by omega) (by omega)
  have mk : sMk 30 (fList (dCons (dVar 19) (dCons comp36 dNil))) L = some (.next (upd (upd L 100 .none) 30 (.own (rows [p, derivF p])))) := by
    unfold sMk
    rw [n100]
    have : fList (dCons (dVar 19) (dCons comp36 dNil)) L = some (rows [p, derivF p]) := by
      unfold fList
      rw [args2 (a := dVar 19) n19 rfl ec rfl]; rfl
    rw [this]; rfl
  refine (sCons_eq mk).trans ?_
  have m30 : upd (upd L 100 .none) 30 (.own (rows [p, derivF p])) 30 = some (.own (rows [p, derivF p])) := upd_self _ _ _
  generalize upd (upd L 100 .none) 30 (.own (rows [p, derivF p])) = K at m30
  rw [hd] at m30
  have i0 : dSub (dVar 30) (dInt 0) K = some (.list (ivs p)) := dSub_own (a := dVar 30) (k := 0) m30 rfl (Nat.le_trans (Nat.le_refl 2) (by decide)) rfl
  have i1 : dSub (dVar 30) (dInt 1) K = some (.list (ivs (t0 :: tl))) := dSub_own (a := dVar 30) (k := 1) m30 rfl (Nat.le_trans (Nat.le_refl 2) (by decide)) rfl
  have bp' : Lo (m + 6) p := bp.mono (by omega)
  have bd : Lo (m + 6) (t0 :: tl) := by rw [← hd]; exact Lo_deriv bp (by omega)
  have hlt : (t0 :: tl).length < p.length := by rw [← hd, dl]; omega
  have hc : (m + 6 + 1) * 3 ^ p.length ≤ 2 ^ 26 := by
    refine Nat.le_trans (Nat.mul_le_mul (show m + 6 + 1 ≤ 207 by omega) (Nat.pow_le_pow_right (show 0 < 3 by decide) h7)) ?_
    decide
  have e24 : dCall S35 (dCons (dSub (dVar 30) (dInt 0)) (dCons (dSub (dVar 30) (dInt 1)) dNil)) K = some (.list (ivs (restF p (t0 :: tl)))) := by
    rw [dCall_eq (args2 i0 rfl i1 rfl)]
    exact S35_eq _ _ t0 tl _ _ rfl (by omega) (by omega) (by omega) bp' bd (bits_step hlt hc).1
  rw [sCons_eq (sSet_eq e24 rfl)]
  obtain ⟨l', e', r'⟩ := loop36 (p.length + 1) 64 (m + 6) [] p t0 tl (upd K 24 (.list (ivs (restF p (t0 :: tl))))) (by omega) (by omega) ht hlt (by omega) (by simp only [List.length_nil]; omega) bp' bd hc (by rw [upd_ne _ _ (by decide)]; exact m30) (upd_self _ _ _)
  refine (sCons_eq (l' := l') e').trans ?_
  refine sCons_ret ?_
  show (dVar 30 l').map _ = _
  rw [show dVar 30 l' = l' 30 from rfl, r']
  unfold chainF
  rw [hd]
  rfl
noncomputable def Le (B : Nat) (l : List Int) : Prop := ∀ x ∈ l, x.natAbs ≤ B
theorem Le.addRow {c : Int} {C D : Nat} (hc : c.natAbs ≤ C) : ∀ (two : List Int) (i B : Nat) (acc : List Int), Le D two → Le B acc → Le (B + two.length * (C * D)) (Mine.addRow c two i acc)
  | [], i, B, acc, _, h => fun x hx => Nat.le_trans (h x hx) (Nat.le_add_right _ _)
  | b :: two, i, B, acc, hd, h => by
    unfold Mine.addRow
    have step : Le (B + C * D) (acc.set i (acc.getD i 0 + c * b)) := by
      intro x hx
      rcases List.mem_or_eq_of_mem_set hx with q | rfl
      · exact Nat.le_trans (h x q) (Nat.le_add_right _ _)
      · have h1 : (acc.getD i 0).natAbs ≤ B := by
          rcases Nat.lt_or_ge i acc.length with q | q
          · rw [show acc.getD i 0 = acc[i] by simp [List.getD, q]]
            exact h _ (List.getElem_mem _)
          · rw [show acc.getD i 0 = 0 by simp [List.getD, q]]
            exact Nat.zero_le _
        have h2 : (c * b).natAbs ≤ C * D := by
          rw [Int.natAbs_mul]
          exact Nat.mul_le_mul hc (hd b List.mem_cons_self)
        omega
    have := Le.addRow hc two (i + 1) (B + C * D) _ (fun x hx => hd x (List.mem_cons_of_mem _ hx)) step
    have e : B + (b :: two).length * (C * D) = B + C * D + two.length * (C * D) := by
      rw [List.length_cons, Nat.succ_mul]; omega
    rw [e]
    exact this
theorem Le.timesGo {two : List Int} {C D : Nat} (hd : Le D two) : ∀ (one : List Int) (k B : Nat) (acc : List Int), Le C one → Le B acc → Le (B + one.length * (two.length * (C * D))) (Mine.timesGo two one k acc)
  | [], k, B, acc, _, h => fun x hx => Nat.le_trans (h x hx) (Nat.le_add_right _ _)
  | a :: one, k, B, acc, hc, h => by
    unfold Mine.timesGo
    have := Le.timesGo hd one (k + 1) _ _ (fun x hx => hc x (List.mem_cons_of_mem _ hx)) (Le.addRow (hc a List.mem_cons_self) two k B acc hd h)
    have e : B + (a :: one).length * (two.length * (C * D)) = B + two.length * (C * D) + one.length * (two.length * (C * D)) := by
      rw [List.length_cons, Nat.succ_mul]; omega
    rw [e]
    exact this
theorem Le.times {one two : List Int} {C D : Nat} (hc : Le C one) (hd : Le D two) : Le (one.length * (two.length * (C * D))) (timesF one two) := by
  have := Le.timesGo hd one 0 0 (List.replicate (one.length + two.length - 1) 0) hc (fun x hx => by rw [(List.mem_replicate.mp hx).2]; exact Nat.le_refl _)
  rw [Nat.zero_add] at this
  exact this
theorem Le_fold : ∀ (ps : List Int) (acc : List Int) (C : Nat), Le C acc → acc.length + ps.length ≤ 16 → (∀ p ∈ ps, p.natAbs ≤ 500) → Le (C * 32000 ^ ps.length) (ps.foldl (fun acc p => timesF acc [1, -2 * p]) acc)
  | [], acc, C, h, _, _ => by simpa using h
  | p :: ps, acc, C, h, hl, hp => by
    rw [List.foldl_cons]
    have h1 : Le 1000 [1, -2 * p] := by
      intro x hx
      simp only [List.mem_cons, List.not_mem_nil, or_false] at hx
      have := hp p List.mem_cons_self
      rcases hx with rfl | rfl <;> omega
    have h2 : Le (C * 32000) (timesF acc [1, -2 * p]) := by
      intro x hx
      refine Nat.le_trans (h.times h1 x hx) ?_
      simp only [List.length_cons, List.length_nil] at hl ⊢
      have : acc.length * ((0 + 1 + 1) * (C * 1000)) ≤ 16 * ((0 + 1 + 1) * (C * 1000)) := Nat.mul_le_mul_right _ (by omega)
      omega
    have := Le_fold ps (timesF acc [1, -2 * p]) (C * 32000) h2 (by
      rw [timesF_length]
      simp only [List.length_cons, List.length_nil] at hl ⊢
      omega) (fun q hq => hp q (List.mem_cons_of_mem _ hq))
    rw [List.length_cons, Nat.pow_succ, Nat.mul_comm (32000 ^ ps.length), ← Nat.mul_assoc]
    exact this
theorem Lo_product (ps : List Int) (m d : Int) (hl : ps.length ≤ 4) (hp : ∀ p ∈ ps, p.natAbs ≤ 500) (hm : m.natAbs ≤ 500) (hd : d.natAbs ≤ 500) : Lo 100 (productF ps m d) := by
  have h0 : Le 2000000 [1, -4 * m, 4 * m * m + d * d] := by
    intro x hx
    simp only [List.mem_cons, List.not_mem_nil, or_false] at hx
    rcases hx with rfl | rfl | rfl
    · decide
    · omega
    · have e1 : (4 * m * m).natAbs ≤ 4 * (500 * 500) := by
        rw [Int.mul_assoc, Int.natAbs_mul, Int.natAbs_mul]
        exact Nat.mul_le_mul (Nat.le_refl 4) (Nat.mul_le_mul hm hm)
      have e2 : (d * d).natAbs ≤ 500 * 500 := by
        rw [Int.natAbs_mul]
        exact Nat.mul_le_mul hd hd
      omega
  intro x hx
  refine Nat.lt_of_le_of_lt (Le_fold ps _ _ h0 (by simp only [List.length_cons, List.length_nil]; omega) hp x hx) ?_
  refine Nat.lt_of_le_of_lt (Nat.mul_le_mul_left _ (Nat.pow_le_pow_right (by decide) hl)) ?_
  decide
end Mine
end
section
open PySem PySem.W PyProof.Rows
namespace Mine
noncomputable def uniqGo {α : Type} [DecidableEq α] : List α → List α → List α
  | acc, [] => acc
  | acc, p :: r => if p ∈ acc then uniqGo acc r else uniqGo (acc ++ [p]) r
theorem uniqGo_mem {α : Type} [DecidableEq α] : ∀ (l acc : List α) (p : α), p ∈ uniqGo acc l ↔ p ∈ acc ∨ p ∈ l
  | [], acc, p => by simp [uniqGo]
  | q :: r, acc, p => by
    unfold uniqGo
    split
    · rename_i h
      rw [uniqGo_mem r acc p, List.mem_cons]
      constructor
      · rintro (x | x)
        · exact .inl x
        · exact .inr (.inr x)
      · rintro (x | rfl | x)
        · exact .inl x
        · exact .inl h
        · exact .inr x
    · rw [uniqGo_mem r _ p, List.mem_append, List.mem_singleton, List.mem_cons, or_assoc]
theorem uniqGo_nodup {α : Type} [DecidableEq α] : ∀ (l acc : List α), acc.Nodup → (uniqGo acc l).Nodup
  | [], acc, h => h
  | q :: r, acc, h => by
    unfold uniqGo
    split
    · exact uniqGo_nodup r acc h
    · rename_i hq
      refine uniqGo_nodup r _ (List.nodup_append.mpr ⟨h, by simp, ?_⟩)
      intro a ha b hb e
      rw [List.mem_singleton] at hb
      subst hb; subst e
      exact hq ha
theorem uniqGo_map {α β : Type} [DecidableEq α] [DecidableEq β] (f : α → β) : ∀ (l acc : List α), (∀ x ∈ acc ++ l, ∀ y ∈ acc ++ l, f x = f y → x = y) → uniqGo (acc.map f) (l.map f) = (uniqGo acc l).map f
  | [], acc, _ => rfl
  | q :: r, acc, h => by
    rw [List.map_cons]
    unfold uniqGo
    have e : f q ∈ acc.map f ↔ q ∈ acc := by
      constructor
      · intro x
        obtain ⟨y, hy, e⟩ := List.mem_map.mp x
        have := h y (List.mem_append_left _ hy) q (List.mem_append_right _ List.mem_cons_self) e
        subst this; exact hy
      · exact fun x => List.mem_map.mpr ⟨q, x, rfl⟩
    by_cases hq : q ∈ acc
    · rw [if_pos hq, if_pos (e.mpr hq)]
      refine uniqGo_map f r acc fun x hx y hy => h x ?_ y ?_
      · rcases List.mem_append.mp hx with z | z
        · exact List.mem_append_left _ z
        · exact List.mem_append_right _ (List.mem_cons_of_mem _ z)
      · rcases List.mem_append.mp hy with z | z
        · exact List.mem_append_left _ z
        · exact List.mem_append_right _ (List.mem_cons_of_mem _ z)
    · rw [if_neg hq, if_neg (fun x => hq (e.mp x))]
      have := uniqGo_map f r (acc ++ [q]) (by simpa using h)
      rw [List.map_append, List.map_singleton] at this
      exact this
noncomputable def uniq {α : Type} [DecidableEq α] (l : List α) : List α := uniqGo [] l
theorem uniq_mem {α : Type} [DecidableEq α] (l : List α) (p : α) : p ∈ uniq l ↔ p ∈ l := by
  unfold uniq; rw [uniqGo_mem]; simp
theorem uniq_nodup {α : Type} [DecidableEq α] (l : List α) : (uniq l).Nodup := uniqGo_nodup l [] List.nodup_nil
theorem uniq_map {α β : Type} [DecidableEq α] [DecidableEq β] (f : α → β) (l : List α) (h : ∀ x ∈ l, ∀ y ∈ l, f x = f y → x = y) : uniq (l.map f) = (uniq l).map f := uniqGo_map f l [] h
theorem uniq_firsts (l : List Int) : (uniq l).length = (firstsL l.reverse).length := by
  refine List.Perm.length_eq ((List.perm_ext_iff_of_nodup (uniq_nodup l) (firsts_nodup _)).mpr fun a => ?_)
  rw [uniq_mem, mem_firsts, List.mem_reverse]
theorem uniqGo_length {α : Type} [DecidableEq α] : ∀ (l acc : List α), (uniqGo acc l).length ≤ acc.length + l.length
  | [], acc => Nat.le_refl _
  | q :: r, acc => by
    unfold uniqGo
    split
    · refine Nat.le_trans (uniqGo_length r acc) ?_
      simp only [List.length_cons]; omega
    · refine Nat.le_trans (uniqGo_length r _) ?_
      simp only [List.length_append, List.length_cons, List.length_nil]; omega
theorem uniq_length {α : Type} [DecidableEq α] (l : List α) : (uniq l).length ≤ l.length := by
  have := uniqGo_length l []
  rwa [List.length_nil, Nat.zero_add] at this
theorem count_step {f : List Int} (hn : f.Nodup) (a b : Int) (hab : a ≤ b) : (f.filter fun p => decide (a ≤ p ∧ p < b + 1)).length = (f.filter fun p => decide (a ≤ p ∧ p < b)).length + (if b ∈ f then 1 else 0) := by
  induction f with
  | nil => rfl
  | cons q f ih =>
    have ih := ih (List.nodup_cons.mp hn).2
    have hq := (List.nodup_cons.mp hn).1
    rw [List.filter_cons, List.filter_cons]
    by_cases hb : b = q
    · subst hb
      rw [if_neg hq] at ih
      have h1 : decide (a ≤ b ∧ b < b + 1) = true := by simp; omega
      have h2 : decide (a ≤ b ∧ b < b) = false := by simp
      rw [h1, h2, if_pos rfl, if_neg (by simp), List.length_cons, ih, if_pos List.mem_cons_self]
    · have h1 : decide (a ≤ q ∧ q < b + 1) = decide (a ≤ q ∧ q < b) := by
        apply decide_eq_decide.mpr
        omega
      have h2 : (if b ∈ q :: f then 1 else 0) = (if b ∈ f then 1 else 0 : Nat) := by
        have : b ∈ q :: f ↔ b ∈ f := by rw [List.mem_cons]; exact ⟨fun h => h.resolve_left hb, .inr⟩
        by_cases hf : b ∈ f
        · rw [if_pos hf, if_pos (this.mpr hf)]
        · rw [if_neg hf, if_neg (fun x => hf (this.mp x))]
      rw [h1, h2]
      by_cases hc : decide (a ≤ q ∧ q < b) = true
      · rw [if_pos hc, if_pos hc, List.length_cons, List.length_cons, ih]; omega
      · rw [if_neg hc, if_neg hc, ih]
theorem lost_eq (ps : List Int) (m d : Int) (hd : 0 < d) (a : Int) : ∀ n : Nat, changesF (chainF (productF ps m d)) (2 * a - 1) = changesF (chainF (productF ps m d)) (2 * (a + n) - 1) + ((uniq ps).filter fun p => decide (a ≤ p ∧ p < a + n)).length
  | 0 => by
    have : ((uniq ps).filter fun p => decide (a ≤ p ∧ p < a + (0 : Nat))) = [] := by
      rw [List.filter_eq_nil_iff]
      intro p _
      simp only [decide_eq_true_eq]
      omega
    rw [this]
    simp
  | n + 1 => by
    rw [lost_eq ps m d hd a n, sturm_step ps m d hd (a + n)]
    have e := count_step (uniq_nodup ps) a (a + n) (by omega)
    have h : (if a + (n : Int) ∈ uniq ps then 1 else 0) = (if a + (n : Int) ∈ ps then 1 else 0 : Nat) := by
      by_cases q : a + (n : Int) ∈ ps
      · rw [if_pos q, if_pos ((uniq_mem ps _).mpr q)]
      · rw [if_neg q, if_neg (fun x => q ((uniq_mem ps _).mp x))]
    rw [h] at e
    have e2 : (a + ((n + 1 : Nat) : Int)) = a + n + 1 := by push_cast; omega
    rw [e2, e, show 2 * (a + (n : Int) + 1) - 1 = 2 * (a + n) + 1 by omega]
    omega
theorem last_eq (ps : List Int) (m d : Int) (hd : 0 < d) : ∃ g, (chainF (productF ps m d)).getLast? = some g ∧ g.length + (uniq ps).length = 1 + ps.length := by
  obtain ⟨g, h, hl⟩ := last_size ps m d hd
  refine ⟨g, h, ?_⟩
  have := first_again_length ps.reverse
  rw [List.length_reverse] at this
  rw [hl, uniq_firsts]
  omega
end Mine
end
section
open PySem PySem.W PyProof.Rows
namespace Mine
theorem S1_int (a b : Int) : S1 [.int a, .int b] = some (.bool (decide (a < b))) := by rfl
theorem S4_bool (a : Bool) : S4 [.bool a] = some (.bool (!a)) := by rfl
theorem dCmp_eq {f : V → V → Option Bool} {a b : DE} {l : Loc} {x y : V} {r : Bool} (ha : a l = some x) (hb : b l = some y) (h : f x y = some r) : dCmp f a b l = some (.bool r) := by
  unfold dCmp; rw [ha, Option.bind_some, hb, Option.bind_some, h]; rfl
theorem sRet_eq {a : DE} {l : Loc} {v : V} (h : a l = some v) (hf : v.lend = v) : sRet a l = some (.ret v) := by
  unfold sRet; rw [h, Option.map_some, hf]
theorem S7_str {xs : List V} {x : PySem.Str} {b : Bool} (h : anyEq xs (.str x) = some b) : S7 [.list xs, .str x] = some (.bool b) := by
  refine defS_eq (ps := [0, 1]) (den := den7) rfl ?_
  unfold den7
  exact sCons_ret (sRet_eq (dCmp_eq (a := dVar 1) (b := dVar 0) (x := .str x) (y := .list xs) rfl rfl h) rfl)
noncomputable def sgn (c : Nat) : V := .str ⟨#[c]⟩
noncomputable def sgns (cs : List Nat) : List V := cs.map sgn
theorem sgns_length (cs : List Nat) : (sgns cs).length = cs.length := by simp [sgns]
theorem str_beq (a b : Nat) : ((⟨#[a]⟩ : PySem.Str) == ⟨#[b]⟩) = decide (a = b) := by
  by_cases h : a = b
  · subst h; simp
  · simp [h]
theorem anyEq_sgns (c : Nat) : ∀ cs : List Nat, anyEq (sgns cs) (sgn c) = some (decide (c ∈ cs))
  | [] => rfl
  | a :: cs => by
    show (eqbV (sgn a) (sgn c)).bind _ = _
    have e : eqbV (sgn a) (sgn c) = some (decide (a = c)) := by
      show some ((⟨#[a]⟩ : PySem.Str) == ⟨#[c]⟩) = _
      rw [str_beq]
    rw [e, Option.bind_some]
    show (anyEq (sgns cs) (sgn c)).map _ = _
    rw [anyEq_sgns c cs, Option.map_some]
    congr 1
    by_cases h : a = c
    · subst h; simp
    · have : ¬ c = a := fun x => h x.symm
      simp [h, this]
theorem strLt_sgn (a b : Nat) : strLt ⟨#[a]⟩ ⟨#[b]⟩ = decide (a < b) := by
  unfold strLt
  apply decide_eq_decide.mpr
  show [a] < [b] ↔ a < b
  rw [List.cons_lt_cons_iff]
  simp
theorem S13_sgn (a b : Nat) : S13 [sgn a, sgn b] = some (.int ((if b < a then 1 else 0) - (if a < b then 1 else 0))) := by
  refine defS_eq (ps := [0, 1]) (den := den13) rfl ?_
  unfold den13
  have e1 : dCmp gtV (dVar 0) (dVar 1) (bindP [0, 1] [sgn a, sgn b] l0) = some (.bool (decide (b < a))) := dCmp_eq (a := dVar 0) (b := dVar 1) (x := sgn a) (y := sgn b) rfl rfl (congrArg some (strLt_sgn b a))
  have e2 : dCmp ltSV (dVar 0) (dVar 1) (bindP [0, 1] [sgn a, sgn b] l0) = some (.bool (decide (a < b))) := dCmp_eq (a := dVar 0) (b := dVar 1) (x := sgn a) (y := sgn b) rfl rfl (congrArg some (strLt_sgn a b))
  refine sCons_ret (sRet_eq ?_ rfl)
  unfold dBin
  rw [e1, e2]
  simp [subV]
noncomputable def body8 : DS := (sCons (sIf (tOr (tCmp isV (dVar 3) (dVar 1)) (tCmp eqV (dVar 3) (dVar 1))) (sCons (sAug 2 addV (dInt 1)) sNil) sNil) sNil)
theorem loop8 : ∀ (bs : List Bool) (n : Int) (l : Loc), l 1 = some (.bool true) → l 2 = some (.int n) → ∃ l', forD 3 body8 (bvs bs) l = some (.next l') ∧ l' 2 = some (.int (n + (bs.filter id).length))
  | [], n, l, _, h2 => ⟨l, rfl, by simpa using h2⟩
  | b :: bs, n, l, h1, h2 => by
    have a1 : upd l 3 (.bool b) 1 = some (.bool true) := by rw [upd_ne _ _ (by decide)]; exact h1
    have a2 : upd l 3 (.bool b) 2 = some (.int n) := by rw [upd_ne _ _ (by decide)]; exact h2
    have a3 : upd l 3 (.bool b) 3 = some (.bool b) := upd_self _ _ _
    generalize hL : upd l 3 (.bool b) = L at a1 a2 a3
    have t : tOr (tCmp isV (dVar 3) (dVar 1)) (tCmp eqV (dVar 3) (dVar 1)) L = some b := by
      unfold tOr
      rw [tCmp_eq (a := dVar 3) (b := dVar 1) a3 a1 rfl, tCmp_eq (a := dVar 3) (b := dVar 1) a3 a1 rfl]
      cases b <;> rfl
    cases b
    · obtain ⟨l', e', r'⟩ := loop8 bs n L a1 a2
      refine ⟨l', ?_, by simpa using r'⟩
      show forD 3 body8 (.bool false :: bvs bs) l = _
      unfold forD
      rw [hL]
      have : body8 L = some (.next L) := by
        unfold body8
        refine (sCons_eq (l' := L) ?_).trans rfl
        rw [sIf_eq t]; rfl
      rw [this]
      exact e'
    · have e1 : sAug 2 addV (dInt 1) L = some (.next (upd L 2 (.int (n + 1)))) := by
        unfold sAug
        simp only [dVar, dInt, a2, Option.bind_some, addV]
        first | rfl | simp [V.free]
      obtain ⟨l', e', r'⟩ := loop8 bs (n + 1) (upd L 2 (.int (n + 1))) (by rw [upd_ne _ _ (by decide)]; exact a1) (upd_self _ _ _)
      refine ⟨l', ?_, ?_⟩
      · show forD 3 body8 (.bool true :: bvs bs) l = _
        unfold forD
        rw [hL]
        have : body8 L = some (.next (upd L 2 (.int (n + 1)))) := by
          unfold body8
          refine (sCons_eq (l' := upd L 2 (.int (n + 1))) ?_).trans rfl
          rw [sIf_eq t, if_pos rfl]
          exact (sCons_eq e1).trans rfl
        rw [this]
        exact e'
      · rw [r']
        simp only [List.filter_cons, id_eq, if_true, List.length_cons]
        congr 2
        omega
theorem S8_eq (bs : List Bool) (h : bs.length ≤ 4096) : S8 [.list (bvs bs), .bool true] = some (.int ((bs.filter id).length : Int)) := by
  refine defS_eq (ps := [0, 1]) (den := den8) rfl ?_
  have b : bindP [0, 1] [.list (bvs bs), .bool true] l0 = upd (upd l0 0 (.list (bvs bs))) 1 (.bool true) := rfl
  rw [b]
  have h0 : upd (upd l0 0 (.list (bvs bs))) 1 (.bool true) 0 = some (.list (bvs bs)) := rfl
  have h1 : upd (upd l0 0 (.list (bvs bs))) 1 (.bool true) 1 = some (.bool true) := rfl
  generalize upd (upd l0 0 (.list (bvs bs))) 1 (.bool true) = l at h0 h1
  unfold den8
  rw [sCons_eq (sSet_eq (a := dInt 0) rfl rfl)]
  have n0 : upd l 2 (.int 0) 0 = some (.list (bvs bs)) := by rw [upd_ne _ _ (by decide)]; exact h0
  have n1 : upd l 2 (.int 0) 1 = some (.bool true) := by rw [upd_ne _ _ (by decide)]; exact h1
  have n2 : upd l 2 (.int 0) 2 = some (.int 0) := upd_self _ _ _
  generalize upd l 2 (.int 0) = L at n0 n1 n2
  obtain ⟨l', e', r'⟩ := loop8 bs 0 L n1 n2
  refine (sCons_eq (l' := l') ?_).trans ?_
  · rw [sFor_eq (iList_eq (a := dVar 0) n0 (by rw [bvs_length]; exact h))]
    exact e'
  · refine sCons_ret ?_
    show (dVar 2 l').map _ = _
    rw [show dVar 2 l' = l' 2 from rfl, r', Int.zero_add]
    rfl
end Mine
end
section
open PySem PySem.W PyProof.Rows
namespace Mine
noncomputable def body31 : DS := (sCons (sIf (tVal (dCall S4 (dCons (dCallL S7 (dConsL (dVar 12) (dConsL (dVar 10) dNil))) dNil))) (sCons (sApp 12 (dVar 10)) sNil) sNil) sNil)
theorem loop31 : ∀ (cs acc : List Nat) (l : Loc), acc.length + cs.length ≤ 4000 → l 12 = some (.own (sgns acc)) → ∃ l', forD 10 body31 (sgns cs) l = some (.next l') ∧ l' 12 = some (.own (sgns (uniqGo acc cs)))
  | [], acc, l, _, h12 => ⟨l, rfl, h12⟩
  | c :: cs, acc, l, hl, h12 => by
    have a12 : upd l 10 (sgn c) 12 = some (.own (sgns acc)) := by rw [upd_ne _ _ (by decide)]; exact h12
    have a10 : upd l 10 (sgn c) 10 = some (sgn c) := upd_self _ _ _
    generalize hL : upd l 10 (sgn c) = L at a12 a10
    have e0 : dCallL S7 (dConsL (dVar 12) (dConsL (dVar 10) dNil)) L = some (.bool (decide (c ∈ acc))) := by
      unfold dCallL dConsL
      rw [show dVar 12 L = L 12 from rfl, a12, Option.bind_some, show dVar 10 L = L 10 from rfl, a10]
      show (S7 [.list (sgns acc), sgn c]).bind _ = _
      rw [show S7 [.list (sgns acc), sgn c] = some (.bool (decide (c ∈ acc))) from S7_str (anyEq_sgns c acc)]
      rfl
    have t : tVal (dCall S4 (dCons (dCallL S7 (dConsL (dVar 12) (dConsL (dVar 10) dNil))) dNil)) L = some (!decide (c ∈ acc)) := tVal_eq (by rw [dCall_eq (args1 e0 rfl), S4_bool])
    simp only [List.length_cons] at hl
    unfold uniqGo
    by_cases hc : c ∈ acc
    · rw [if_pos hc]
      obtain ⟨l', e', r'⟩ := loop31 cs acc L (by omega) a12
      refine ⟨l', ?_, r'⟩
      show forD 10 body31 (sgn c :: sgns cs) l = _
      unfold forD
      rw [hL]
      have : body31 L = some (.next L) := by
        unfold body31
        refine (sCons_eq (l' := L) ?_).trans rfl
        rw [sIf_eq t, if_neg (by simpa using hc)]; rfl
      rw [this]
      exact e'
    · rw [if_neg hc]
      have n12 : upd (upd L 12 (.own (sgns acc ++ [sgn c]))) 12 (.own (sgns acc ++ [sgn c])) 12 = some (.own (sgns (acc ++ [c]))) := by
        rw [upd_self]; simp [sgns]
      have e1 : sApp 12 (dVar 10) L = some (.next (upd (upd L 12 (.own (sgns acc ++ [sgn c]))) 12 (.own (sgns acc ++ [sgn c])))) := sApp_eq (a := dVar 10) a12 a10 rfl (by rw [sgns_length]; omega)
      generalize upd (upd L 12 (.own (sgns acc ++ [sgn c]))) 12 (.own (sgns acc ++ [sgn c])) = K at n12 e1
      obtain ⟨l', e', r'⟩ := loop31 cs (acc ++ [c]) K (by simp only [List.length_append, List.length_cons, List.length_nil]; omega) n12
      refine ⟨l', ?_, r'⟩
      show forD 10 body31 (sgn c :: sgns cs) l = _
      unfold forD
      rw [hL]
      have : body31 L = some (.next K) := by
        unfold body31
        refine (sCons_eq (l' := K) ?_).trans rfl
        rw [sIf_eq t, if_pos (by simpa using hc)]
        exact (sCons_eq e1).trans rfl
      rw [this]
      exact e'
theorem S31_eq (cs : List Nat) (h : cs.length ≤ 4000) : S31 [.str ⟨cs.toArray⟩] = some (.list (sgns (uniq cs))) := by
  refine defS_eq (ps := [11]) (den := den31) rfl ?_
  have b : bindP [11] [.str ⟨cs.toArray⟩] l0 = upd l0 11 (.str ⟨cs.toArray⟩) := rfl
  rw [b]
  have h11 : upd l0 11 (.str ⟨cs.toArray⟩) 11 = some (.str ⟨cs.toArray⟩) := rfl
  have h100 : upd l0 11 (.str ⟨cs.toArray⟩) 100 = none := rfl
  generalize upd l0 11 (.str ⟨cs.toArray⟩) = l at h11 h100
  have mk : sMk 12 (fList dNil) l = some (.next (upd (upd l 100 .none) 12 (.own []))) := by
    unfold sMk
    rw [h100]; rfl
  unfold den31
  rw [sCons_eq mk]
  have n11 : upd (upd l 100 .none) 12 (.own []) 11 = some (.str ⟨cs.toArray⟩) := by rw [upd_ne _ _ (by decide), upd_ne _ _ (by decide)]; exact h11
  have n12 : upd (upd l 100 .none) 12 (.own []) 12 = some (.own (sgns [])) := upd_self _ _ _
  generalize upd (upd l 100 .none) 12 (.own []) = L at n11 n12
  obtain ⟨l', e', r'⟩ := loop31 cs [] L (by simpa using h) n12
  have hi : iStr (dVar 11) L = some (sgns cs) := by
    unfold iStr
    rw [show dVar 11 L = L 11 from rfl, n11]
    simp only [List.size_toArray]
    rw [if_pos (by omega)]
    rfl
  refine (sCons_eq (l' := l') ?_).trans ?_
  · rw [sFor_eq hi]
    exact e'
  · refine sCons_ret ?_
    show (dVar 12 l').map _ = _
    rw [show dVar 12 l' = l' 12 from rfl, r']
    rfl
noncomputable def spareF : List Int := [2, 7, 0, 7, 3, 5, 27]
noncomputable def numbersF (items : List Int) : List Int := (List.range 7).map fun k => if k < items.length then items.getD k 0 else spareF.getD k 0
theorem S29_eq (items : List Int) (h : items.length ≤ 4000) : S29 [.list (ivs items)] = some (.list (ivs (numbersF items))) := by
  refine defS_eq (ps := [6]) (den := den29) rfl ?_
  have b : bindP [6] [.list (ivs items)] l0 = upd l0 6 (.list (ivs items)) := rfl
  rw [b]
  have h6 : upd l0 6 (.list (ivs items)) 6 = some (.list (ivs items)) := rfl
  generalize upd l0 6 (.list (ivs items)) = l at h6
  unfold den29
  rw [sCons_eq (sSet_eq (v := .list (ivs spareF)) (by rfl) rfl)]
  have n6 : upd l 7 (.list (ivs spareF)) 6 = some (.list (ivs items)) := by rw [upd_ne _ _ (by decide)]; exact h6
  have n7 : upd l 7 (.list (ivs spareF)) 7 = some (.list (ivs spareF)) := upd_self _ _ _
  generalize upd l 7 (.list (ivs spareF)) = L at n6 n7
  refine sCons_ret (sRet_eq ?_ rfl)
  unfold dComp
  rw [iRange1 (a := dInt 7) (n := 7) rfl (by decide), Option.bind_some, compL_map (fun _ => true) (fun y => match y with | .int k => .int (if k.toNat < items.length then items.getD k.toNat 0 else spareF.getD k.toNat 0) | v => v) _ (fun _ _ => rfl) (fun y hy _ => ?_)]
  · rw [List.filter_eq_self.mpr (fun _ _ => rfl)]
    rfl
  · obtain ⟨k, hk, rfl⟩ := rangeL_mem hy
    have a6 : upd L 8 (.int (0 + (k : Int))) 6 = some (.list (ivs items)) := by rw [upd_ne _ _ (by decide)]; exact n6
    have a7 : upd L 8 (.int (0 + (k : Int))) 7 = some (.list (ivs spareF)) := by rw [upd_ne _ _ (by decide)]; exact n7
    have a8 : upd L 8 (.int (0 + (k : Int))) 8 = some (.int (k : Int)) := by rw [upd_self]; congr 2; omega
    generalize upd L 8 (.int (0 + (k : Int))) = K at a6 a7 a8
    refine ⟨?_, rfl⟩
    have len := lenL_list (a := dVar 6) (l := K) (xs := ivs items) a6 (by rw [ivs_length]; omega)
    rw [ivs_length] at len
    have t : tCmp ltSV (dVar 8) (dCallL lenS (dConsL (dVar 6) dNil)) K = some (decide ((k : Int) < items.length)) := tCmp_eq (a := dVar 8) a8 len rfl
    have hz : (0 + (k : Int)).toNat = k := by omega
    rw [dIte_eq t]
    simp only [Int.zero_add, Int.toNat_natCast]
    by_cases hlt : k < items.length
    · rw [if_pos (by simpa using hlt), if_pos hlt, dSub_list (a := dVar 6) (b := dVar 8) a6 a8 (by rw [ivs_length]; omega) (ivs_get items _ hlt)]
      rw [show items.getD k 0 = items[k] by simp [List.getD, hlt]]
    · rw [if_neg (by simpa using hlt), if_neg hlt, dSub_list (a := dVar 7) (b := dVar 8) a7 a8 (by decide) (ivs_get spareF _ hk)]
      rw [show spareF.getD k 0 = spareF[k] by simp [List.getD, show k < spareF.length from hk]; rfl]
end Mine
end
section
open PySem PySem.W PyProof.Rows
namespace Mine
noncomputable def runF (a : Int) (n : Nat) : List Int := (List.range n).map fun (k : Nat) => a + (k : Int)
noncomputable def elems (k : Nat) : List Int :=
  if k = 17 then [173, 847, 6150, 6155, 6156, 6157, 8203, 8204, 8205, 8288, 65279] ++ runF 65024 16
  else if k = 20 then runF 65529 5
  else if k = 22 then runF 12272 12
  else if k = 24 then [832, 833, 8206, 8207] ++ runF 8234 5 ++ runF 8298 6
  else if k = 26 then [917505] ++ runF 917536 96 else []
noncomputable def inSets (k : Nat) (i : Int) : Bool := (elems k).any fun j => j == i
noncomputable def lowF (kind : Nat) : Int := [65024, 64976, 65529, 12272, 8298, 917536].getD kind 0
noncomputable def lenF (kind : Nat) : Nat := [16, 32, 5, 12, 6, 96].getD kind 0
theorem ord_at {l : Loc} {i c : Nat} (h : l i = some (sgn c)) : dCall ordS (dCons (dVar i) dNil) l = some (.int c) := by
  rw [dCall_eq (args1 (a := dVar i) h rfl)]; rfl
theorem inSet_at {f : Int → Bool} {a : DE} {l : Loc} {i : Int} (h : a l = some (.int i)) : dInSet f a l = some (.bool (f i)) := by
  unfold dInSet; rw [h]
theorem S18_eq (inS : Nat → Int → Bool) (c : Nat) : S18 inS [sgn c] = some (.bool (inS 17 c)) := defS_eq (ps := [4]) (den := den18 inS) rfl (sCons_ret (sRet_eq (inSet_at (ord_at (c := c) rfl)) rfl))
theorem S21_eq (inS : Nat → Int → Bool) (c : Nat) : S21 inS [sgn c] = some (.bool (inS 20 c)) := defS_eq (ps := [4]) (den := den21 inS) rfl (sCons_ret (sRet_eq (inSet_at (ord_at (c := c) rfl)) rfl))
theorem S23_eq (inS : Nat → Int → Bool) (c : Nat) : S23 inS [sgn c] = some (.bool (inS 22 c)) := defS_eq (ps := [4]) (den := den23 inS) rfl (sCons_ret (sRet_eq (inSet_at (ord_at (c := c) rfl)) rfl))
theorem S25_eq (inS : Nat → Int → Bool) (c : Nat) : S25 inS [sgn c] = some (.bool (inS 24 c)) := defS_eq (ps := [4]) (den := den25 inS) rfl (sCons_ret (sRet_eq (inSet_at (ord_at (c := c) rfl)) rfl))
theorem S27_eq (inS : Nat → Int → Bool) (c : Nat) : S27 inS [sgn c] = some (.bool (inS 26 c)) := defS_eq (ps := [4]) (den := den27 inS) rfl (sCons_ret (sRet_eq (inSet_at (ord_at (c := c) rfl)) rfl))
noncomputable def c4F (c : Nat) : Bool := if c < 64976 then false else if c < 65008 then true else (65534 == Builtin.bitAnd c 65535) || ((65535 == Builtin.bitAnd c 65535) || false)
theorem S19_eq (c : Nat) : S19 [sgn c] = some (.bool (c4F c)) := by
  refine defS_eq (ps := [4]) (den := den19) rfl ?_
  have h4 : bindP [4] [sgn c] l0 4 = some (sgn c) := rfl
  generalize bindP [4] [sgn c] l0 = l at h4
  unfold den19
  rw [sCons_eq (sSet_eq (ord_at h4) rfl)]
  have n4 : upd l 5 (.int c) 4 = some (sgn c) := by rw [upd_ne _ _ (by decide)]; exact h4
  have n5 : upd l 5 (.int c) 5 = some (.int c) := upd_self _ _ _
  generalize upd l 5 (.int c) = L at n4 n5
  have t1 : tCmp ltSV (dVar 5) (dInt 64976) L = some (decide ((c : Int) < 64976)) := tCmp_eq (a := dVar 5) n5 (b := dInt 64976) rfl rfl
  have t2 : tCmp ltSV (dVar 5) (dInt 65008) L = some (decide ((c : Int) < 65008)) := tCmp_eq (a := dVar 5) n5 (b := dInt 65008) rfl rfl
  unfold c4F
  by_cases h1 : c < 64976
  · rw [if_pos h1]
    refine sCons_ret ?_
    rw [sIf_eq t1, if_pos (by simp; omega)]
    rfl
  · rw [if_neg h1]
    rw [sCons_eq (l' := L) (by rw [sIf_eq t1, if_neg (by simp; omega)]; rfl)]
    by_cases h2 : c < 65008
    · rw [if_pos h2]
      refine sCons_ret ?_
      rw [sIf_eq t2, if_pos (by simp; omega)]
      rfl
    · rw [if_neg h2]
      rw [sCons_eq (l' := L) (by rw [sIf_eq t2, if_neg (by simp; omega)]; rfl)]
      refine sCons_ret (sRet_eq ?_ rfl)
      have e : dBin andV (dCall ordS (dCons (dVar 4) dNil)) (dInt 65535) L = some (.int (Builtin.bitAnd c 65535)) := by
        unfold dBin
        rw [ord_at n4]; rfl
      unfold dInTup
      rw [e, Option.bind_some, args2 (a := dInt 65534) (b := dInt 65535) rfl rfl rfl rfl, Option.bind_some]
      rfl
noncomputable def holdsF (inS : Nat → Int → Bool) (kind c : Nat) : Bool := if kind = 0 then inS 17 c else if kind = 1 then c4F c else if kind = 2 then inS 20 c else if kind = 3 then inS 22 c else if kind = 4 then inS 24 c else inS 26 c
theorem S30_eq (inS : Nat → Int → Bool) (kind c : Nat) (hk : kind < 6) : S30 inS [.int kind, sgn c] = some (.bool (holdsF inS kind c)) := by
  refine defS_eq (ps := [9, 10]) (den := den30 inS) rfl ?_
  have h9 : bindP [9, 10] [.int kind, sgn c] l0 9 = some (.int kind) := rfl
  have h10 : bindP [9, 10] [.int kind, sgn c] l0 10 = some (sgn c) := rfl
  generalize bindP [9, 10] [.int kind, sgn c] l0 = l at h9 h10
  have a10 := args1 (a := dVar 10) h10 rfl
  have t : ∀ i : Int, tCmp eqV (dVar 9) (dInt i) l = some ((kind : Int) == i) := fun i => tCmp_eq (a := dVar 9) h9 (b := dInt i) rfl rfl
  have r : ∀ {S : List V → Option V} {b : Bool}, S [sgn c] = some (.bool b) → sCons (sRet (dCall S (dCons (dVar 10) dNil))) sNil l = some (.ret (.bool b)) := fun {S b} h => sCons_ret (sRet_eq ((dCall_eq a10).trans h) rfl)
  unfold den30 holdsF
  match kind, hk with
  | 0, _ => exact sCons_ret ((sIf_eq (t 0)).trans (r (S18_eq inS c)))
  | 1, _ =>
    rw [sCons_eq (l' := l) ((sIf_eq (t 0)).trans rfl)]
    exact sCons_ret ((sIf_eq (t 1)).trans (r (S19_eq c)))
  | 2, _ =>
    rw [sCons_eq (l' := l) ((sIf_eq (t 0)).trans rfl), sCons_eq (l' := l) ((sIf_eq (t 1)).trans rfl)]
    exact sCons_ret ((sIf_eq (t 2)).trans (r (S21_eq inS c)))
  | 3, _ =>
    rw [sCons_eq (l' := l) ((sIf_eq (t 0)).trans rfl), sCons_eq (l' := l) ((sIf_eq (t 1)).trans rfl), sCons_eq (l' := l) ((sIf_eq (t 2)).trans rfl)]
    exact sCons_ret ((sIf_eq (t 3)).trans (r (S23_eq inS c)))
  | 4, _ =>
    rw [sCons_eq (l' := l) ((sIf_eq (t 0)).trans rfl), sCons_eq (l' := l) ((sIf_eq (t 1)).trans rfl), sCons_eq (l' := l) ((sIf_eq (t 2)).trans rfl), sCons_eq (l' := l) ((sIf_eq (t 3)).trans rfl)]
    exact sCons_ret ((sIf_eq (t 4)).trans (r (S25_eq inS c)))
  | 5, _ =>
    rw [sCons_eq (l' := l) ((sIf_eq (t 0)).trans rfl), sCons_eq (l' := l) ((sIf_eq (t 1)).trans rfl), sCons_eq (l' := l) ((sIf_eq (t 2)).trans rfl), sCons_eq (l' := l) ((sIf_eq (t 3)).trans rfl), sCons_eq (l' := l) ((sIf_eq (t 4)).trans rfl)]
    exact r (S27_eq inS c)
theorem holds_run : ∀ kind, kind < 6 → ∀ q, q < lenF kind + 6 → holdsF inSets kind ((lowF kind - 3).toNat + q) = decide (3 ≤ q ∧ q < lenF kind + 3) := by
  decide +kernel
end Mine
end
section
open PySem PySem.W PyProof.Rows
namespace Mine
theorem dMod_eq {a b : DE} {l : Loc} {x y : Int} (ha : a l = some (.int x)) (hb : b l = some (.int y)) (h : y ≠ 0) : dBin modV a b l = some (.int (x.fmod y)) := by
  unfold dBin; rw [ha, hb]
  simp [modV, h]
theorem dFdiv_eq {a b : DE} {l : Loc} {x y : Int} (ha : a l = some (.int x)) (hb : b l = some (.int y)) (h : y ≠ 0) (h2 : y.natAbs ≤ 4096) : dBin fdivV a b l = some (.int (x.fdiv y)) := by
  unfold dBin; rw [ha, hb]
  simp only [Option.bind_some, fdivV]
  rw [if_neg (by omega)]
theorem anyEq_ints (c : Int) : ∀ cs : List Int, anyEq (ivs cs) (.int c) = some (decide (c ∈ cs))
  | [] => rfl
  | a :: cs => by
    show (some (a == c)).bind _ = _
    rw [Option.bind_some]
    show (anyEq (ivs cs) (.int c)).map _ = _
    rw [anyEq_ints c cs, Option.map_some]
    congr 1
    by_cases h : a = c
    · subst h; simp
    · have : ¬ c = a := fun x => h x.symm
      simp [h, this]
theorem cut_hi {i : Nat} {b : DE} {l : Loc} {xs : List V} {k : Nat} (h : l i = some (.list xs)) (hb : b l = some (.int k)) (hl : xs.length ≤ 4096) : dCut (dVar i) none (some b) l = some (.list (xs.take k)) := by
  unfold dCut
  rw [show dVar i l = l i from rfl, h]
  simp only [Option.bind_some, dPart, hb, cutV, hl, if_true]
  rw [if_pos (Int.natCast_nonneg k), Int.toNat_natCast]
  rfl
theorem enum38 (P : List Int) (hP : P.length ≤ 4096) (l : Loc) (h37 : l 37 = some (.list (ivs P))) : ∀ (rest : List Int) (k : Nat) (acc : List Int), (P.drop k).take rest.length = rest → (∀ x, x ∈ acc ↔ x ∈ P.take k) →
    ∃ r, compL (tCmp notInV (dVar 15) (dCut (dVar 37) none (some (dVar 8)))) (dVar 15) (enumL l 8 15 k (ivs rest)) = some (ivs r) ∧ acc ++ r = uniqGo acc rest
  | [], k, acc, _, _ => ⟨[], rfl, by simp [uniqGo]⟩
  | p :: rest, k, acc, hd, ha => by
    have hk : k < P.length := by
      rcases Nat.lt_or_ge k P.length with q | q
      · exact q
      · rw [List.drop_of_length_le q] at hd; simp at hd
    rw [List.drop_eq_getElem_cons hk, List.length_cons, List.take_succ_cons] at hd
    have hp : P[k] = p := (List.cons.inj hd).1
    have hd' : (P.drop (k + 1)).take rest.length = rest := (List.cons.inj hd).2
    have tk : P.take (k + 1) = P.take k ++ [p] := by rw [← hp]; exact (List.take_append_getElem hk).symm
    have a37 : upd (upd l 8 (.int k)) 15 (.int p) 37 = some (.list (ivs P)) := by rw [upd_ne _ _ (by decide), upd_ne _ _ (by decide)]; exact h37
    have a8 : upd (upd l 8 (.int k)) 15 (.int p) 8 = some (.int k) := by rw [upd_ne _ _ (by decide), upd_self]
    have a15 : upd (upd l 8 (.int k)) 15 (.int p) 15 = some (.int p) := upd_self _ _ _
    have t : tCmp notInV (dVar 15) (dCut (dVar 37) none (some (dVar 8))) (upd (upd l 8 (.int k)) 15 (.int p)) = some (!decide (p ∈ P.take k)) := by
      generalize upd (upd l 8 (.int k)) 15 (.int p) = L at a37 a8 a15
      refine tCmp_eq (a := dVar 15) a15 (cut_hi (b := dVar 8) a37 a8 (by rw [ivs_length]; exact hP)) ?_
      have : (ivs P).take k = ivs (P.take k) := by simp [ivs]
      rw [this]
      show (anyEq (ivs (P.take k)) (.int p)).map not = _
      rw [anyEq_ints]; rfl
    show ∃ r, compL _ _ (upd (upd l 8 (.int k)) 15 (.int p) :: enumL l 8 15 (k + 1) (ivs rest)) = some (ivs r) ∧ _
    unfold compL uniqGo
    rw [t, Option.bind_some]
    by_cases hm : p ∈ acc
    · have hm' := (ha p).mp hm
      simp only [hm, hm', decide_true, Bool.not_true, Bool.false_eq_true, if_false, if_true]
      refine enum38 P hP l h37 rest (k + 1) acc hd' fun x => ?_
      rw [tk, List.mem_append, List.mem_singleton, ha x]
      constructor
      · exact .inl
      · rintro (q | rfl)
        · exact q
        · exact hm'
    · have hm' : ¬ p ∈ P.take k := fun q => hm ((ha p).mpr q)
      simp only [hm, hm', decide_false, Bool.not_false, if_false, if_true]
      obtain ⟨r, e, hr⟩ := enum38 P hP l h37 rest (k + 1) (acc ++ [p]) hd' fun x => by
        rw [tk, List.mem_append, List.mem_append, ha x]
      refine ⟨p :: r, ?_, by rw [← hr]; simp⟩
      rw [show dVar 15 (upd (upd l 8 (.int k)) 15 (.int p)) = upd (upd l 8 (.int k)) 15 (.int p) 15 from rfl, a15, Option.bind_some, e]
      rfl
theorem e38 {l : Loc} {P : List Int} (hP : P.length ≤ 4096) (h37 : l 37 = some (.list (ivs P))) : dEnum 8 15 (dCut (dVar 37) none (some (dInt 4))) (tCmp notInV (dVar 15) (dCut (dVar 37) none (some (dVar 8)))) (dVar 15) l = some (.list (ivs (uniq (P.take 4)))) := by
  unfold dEnum
  rw [cut_hi (b := dInt 4) (k := 4) h37 rfl (by rw [ivs_length]; exact hP)]
  have ht : (ivs P).take 4 = ivs (P.take 4) := by simp [ivs]
  have hl : (ivs (P.take 4)).length ≤ 4096 := by rw [ivs_length, List.length_take]; omega
  simp only [ht, hl, if_true]
  obtain ⟨r, e, hr⟩ := enum38 P hP l h37 (P.take 4) 0 [] (by simp) (by simp)
  rw [e]
  rw [List.nil_append] at hr
  rw [hr]
  rfl
end Mine
end
section
open PySem PySem.W PyProof.Rows
namespace Mine
theorem dSub_int {a b : DE} {l : Loc} {ns : List Int} {k : Nat} (ha : a l = some (.list (ivs ns))) (hb : b l = some (.int k)) (hl : ns.length ≤ 4096) (hk : k < ns.length) : dSub a b l = some (.int (ns.getD k 0)) := by
  refine dSub_list ha hb (by rw [ivs_length]; exact hl) ?_
  rw [ivs_get ns k hk]
  simp [List.getD, hk]
theorem e37 {l : Loc} {ns : List Int} {L : Nat} (h34 : l 34 = some (.list (ivs ns))) (h36 : l 36 = some (.int L)) (hn : ns.length = 7) (hL : 0 < L) :
    dComp 28 (iList (dCut (dVar 34) (some (dInt 1)) (some (dInt 6)))) tAll (dBin subV (dBin modV (dVar 28) (dBin addV (dVar 36) (dInt 6))) (dInt 3)) l = some (.list (ivs (((ns.drop 1).take 5).map fun x => x.fmod (L + 6) - 3))) := by
  have hc : dCut (dVar 34) (some (dInt 1)) (some (dInt 6)) l = some (.list (ivs ((ns.drop 1).take 5))) := by
    unfold dCut
    rw [show dVar 34 l = l 34 from rfl, h34]
    have h1 : (ivs ns).length = 7 := by rw [ivs_length]; exact hn
    simp only [Option.bind_some, dPart, dInt, cutV, h1]
    simp [ivs]
  unfold dComp
  rw [iList_eq hc (by rw [ivs_length, List.length_take]; omega), Option.bind_some, compL_map (fun _ => true) (fun y => match y with | .int k => .int (k.fmod (L + 6) - 3) | v => v) _ (fun _ _ => rfl) (fun y hy _ => ?_)]
  · rw [List.filter_eq_self.mpr (fun _ _ => rfl)]
    simp only [Option.map_some, Option.some.injEq, V.list.injEq]
    unfold ivs
    rw [List.map_map, List.map_map]
    rfl
  · obtain ⟨k, hk, rfl⟩ := List.mem_map.mp hy
    refine ⟨?_, rfl⟩
    have a36 : upd l 28 (.int k) 36 = some (.int L) := by rw [upd_ne _ _ (by decide)]; exact h36
    have a28 : upd l 28 (.int k) 28 = some (.int k) := upd_self _ _ _
    generalize upd l 28 (.int k) = K at a36 a28
    exact dBin_sub (dMod_eq (a := dVar 28) a28 (dBin_add (a := dVar 36) (b := dInt 6) a36 rfl) (by omega)) rfl
noncomputable def codeF (low p : Int) : Nat := (low + p).toNat
theorem join_four (a b c d : Nat) : joinS (PySem.Str.ofString "") [⟨#[a]⟩, ⟨#[b]⟩, ⟨#[c]⟩, ⟨#[d]⟩] = some (.str ⟨#[a, b, c, d]⟩) := by
  rfl
theorem e11 {l : Loc} {P : List Int} {low p0 p1 p2 p3 : Int} {rest : List Int} (hP : P = p0 :: p1 :: p2 :: p3 :: rest) (hr : P.length ≤ 4096) (h37 : l 37 = some (.list (ivs P))) (h21 : l 21 = some (.int low)) (hp : ∀ p ∈ [p0, p1, p2, p3], 0 ≤ low + p ∧ low + p ≤ 1114111) :
    dJoin (PySem.Str.ofString "") (dComp 15 (iList (dCut (dVar 37) none (some (dInt 4)))) tAll (dCall chrS (dCons (dBin addV (dVar 21) (dVar 15)) dNil))) l = some (.str ⟨([p0, p1, p2, p3].map (codeF low)).toArray⟩) := by
  have hc : dComp 15 (iList (dCut (dVar 37) none (some (dInt 4)))) tAll (dCall chrS (dCons (dBin addV (dVar 21) (dVar 15)) dNil)) l = some (.list (sgns ([p0, p1, p2, p3].map (codeF low)))) := by
    have ht : (ivs P).take 4 = ivs [p0, p1, p2, p3] := by rw [hP]; rfl
    have hcut := cut_hi (b := dInt 4) (k := 4) h37 rfl (by rw [ivs_length]; exact hr)
    rw [ht] at hcut
    unfold dComp
    rw [iList_eq hcut (Nat.le_trans (Nat.le_refl 4) (by decide)), Option.bind_some, compL_map (fun _ => true) (fun y => match y with | .int k => sgn (codeF low k) | v => v) _ (fun _ _ => rfl) (fun y hy _ => ?_)]
    · rfl
    · obtain ⟨k, hk, rfl⟩ := List.mem_map.mp hy
      refine ⟨?_, rfl⟩
      have a21 : upd l 15 (.int k) 21 = some (.int low) := by rw [upd_ne _ _ (by decide)]; exact h21
      have a15 : upd l 15 (.int k) 15 = some (.int k) := upd_self _ _ _
      generalize upd l 15 (.int k) = K at a21 a15
      rw [dCall_eq (args1 (dBin_add (a := dVar 21) (b := dVar 15) a21 a15) rfl)]
      exact if_pos (hp k hk)
  unfold dJoin
  rw [hc]
  exact join_four _ _ _ _
noncomputable def Ends (r : Option Fl) (F : Loc → Prop) : Prop := ∃ lp, r = some (.next lp) ∧ F lp
theorem ends_step {a b : DS} {l l' : Loc} {F : Loc → Prop} (h : a l = some (.next l')) (k : Ends (b l') F) : Ends (sCons a b l) F := by
  obtain ⟨lp, e, f⟩ := k
  exact ⟨lp, (sCons_eq h).trans e, f⟩
theorem lowF_range {kind : Nat} (h : kind < 6) : 8298 ≤ lowF kind ∧ lowF kind ≤ 917536 := by
  match kind, h with
  | 0, _ => decide
  | 1, _ => decide
  | 2, _ => decide
  | 3, _ => decide
  | 4, _ => decide
  | 5, _ => decide
theorem lenF_range {kind : Nat} (h : kind < 6) : 5 ≤ lenF kind ∧ lenF kind ≤ 96 := by
  match kind, h with
  | 0, _ => decide
  | 1, _ => decide
  | 2, _ => decide
  | 3, _ => decide
  | 4, _ => decide
  | 5, _ => decide
theorem lenF_int {kind : Nat} (h : kind < 6) : (lenF kind : Int) = ([16, 32, 5, 12, 6, 96] : List Int).getD kind 0 := by
  match kind, h with
  | 0, _ => rfl
  | 1, _ => rfl
  | 2, _ => rfl
  | 3, _ => rfl
  | 4, _ => rfl
  | 5, _ => rfl
theorem pre_go (items : List Int) (hl : items.length ≤ 63) (n0 n1 n2 n3 n4 n5 n6 : Int) (hN : numbersF items = [n0, n1, n2, n3, n4, n5, n6]) (kind ending : Nat) (hk : n0.fmod 6 = kind) (hk6 : kind < 6) (he : (n0.fdiv 6).fmod 3 = ending) (p0 p1 p2 p3 p4 : Int)
    (hp : [n1, n2, n3, n4, n5].map (fun x => x.fmod ((lenF kind : Int) + 6) - 3) = [p0, p1, p2, p3, p4]) (hr : ∀ p ∈ [p0, p1, p2, p3, p4], -3 ≤ p ∧ p ≤ 98) (near wide dep : Int) (hnear : n6.fmod 12 + 1 = near) (hwide : (n6.fdiv 12).fmod 12 + 1 = wide) (hdep : (n5.fdiv 100).fmod 9 + 1 = dep) (hd : 0 < dep ∧ dep ≤ 9) :
    Ends (denPre (bindP [6] [.list (ivs items)] l0)) fun lp => lp 9 = some (.int kind) ∧ lp 35 = some (.int ending) ∧ lp 21 = some (.int (lowF kind)) ∧ lp 36 = some (.int (lenF kind)) ∧ lp 38 = some (.list (ivs (uniq [p0, p1, p2, p3]))) ∧
      lp 12 = some (.list (sgns (uniq ([p0, p1, p2, p3].map (codeF (lowF kind)))))) ∧ lp 30 = some (.list (rows (chainF (productF [p0, p1, p2, p3] p4 dep)))) ∧ lp 39 = some (.int near) ∧ lp 40 = some (.int wide) := by
  have hlow := lowF_range hk6
  have hL0 : 0 < lenF kind := by have := lenF_range hk6; omega
  · unfold denPre
    refine ends_step (sSet_eq (v := .list (ivs [n0, n1, n2, n3, n4, n5, n6])) ?_ rfl) ?_
    · rw [dCall_eq (args1 (a := dVar 6) (v := .list (ivs items)) rfl rfl), S29_eq _ (by omega), hN]
    generalize hl1 : upd (bindP [6] [V.list (ivs items)] l0) 34 (.list (ivs [n0, n1, n2, n3, n4, n5, n6])) = l1
    have h34 : l1 34 = some (.list (ivs [n0, n1, n2, n3, n4, n5, n6])) := by rw [← hl1]; rfl
    clear hl1
    have g : ∀ l : Loc, l 34 = some (.list (ivs [n0, n1, n2, n3, n4, n5, n6])) → ∀ k : Nat, k < 7 → dSub (dVar 34) (dInt k) l = some (.int ([n0, n1, n2, n3, n4, n5, n6].getD k 0)) := fun l h k hk => dSub_int (a := dVar 34) (b := dInt k) h rfl (by simp) (by simpa using hk)
    refine ends_step (sSet_eq (v := .int kind) ?_ rfl) ?_
    · rw [← hk]; exact dMod_eq (g l1 h34 0 (by decide)) (b := dInt 6) rfl (by decide)
    have g34 : upd l1 9 (.int kind) 34 = some (.list (ivs [n0, n1, n2, n3, n4, n5, n6])) := h34
    have g9 : upd l1 9 (.int kind) 9 = some (.int kind) := rfl
    generalize upd l1 9 (.int kind) = l2 at g34 g9
    refine ends_step (sSet_eq (v := .int ending) ?_ rfl) ?_
    · rw [← he]; exact dMod_eq (dFdiv_eq (g l2 g34 0 (by decide)) (b := dInt 6) rfl (by decide) (by decide)) (b := dInt 3) rfl (by decide)
    have i34 : upd l2 35 (.int ending) 34 = some (.list (ivs [n0, n1, n2, n3, n4, n5, n6])) := g34
    have i9 : upd l2 35 (.int ending) 9 = some (.int kind) := g9
    have i35 : upd l2 35 (.int ending) 35 = some (.int ending) := rfl
    generalize upd l2 35 (.int ending) = l3 at i34 i9 i35
    refine ends_step (sSet_eq (v := .int (lowF kind)) ?_ rfl) ?_
    · exact dSub_int (ns := [65024, 64976, 65529, 12272, 8298, 917536]) (b := dVar 9) rfl i9 (by simp) (by simpa using hk6)
    have j34 : upd l3 21 (.int (lowF kind)) 34 = some (.list (ivs [n0, n1, n2, n3, n4, n5, n6])) := i34
    have j9 : upd l3 21 (.int (lowF kind)) 9 = some (.int kind) := i9
    have j35 : upd l3 21 (.int (lowF kind)) 35 = some (.int ending) := i35
    have j21 : upd l3 21 (.int (lowF kind)) 21 = some (.int (lowF kind)) := rfl
    generalize upd l3 21 (.int (lowF kind)) = l4 at j34 j9 j35 j21
    refine ends_step (sSet_eq (v := .int (lenF kind)) ?_ rfl) ?_
    · have := lenF_int hk6
      rw [this]
      exact dSub_int (ns := [16, 32, 5, 12, 6, 96]) (b := dVar 9) rfl j9 (by simp) (by simpa using hk6)
    have k34 : upd l4 36 (.int (lenF kind)) 34 = some (.list (ivs [n0, n1, n2, n3, n4, n5, n6])) := j34
    have k9 : upd l4 36 (.int (lenF kind)) 9 = some (.int kind) := j9
    have k35 : upd l4 36 (.int (lenF kind)) 35 = some (.int ending) := j35
    have k21 : upd l4 36 (.int (lenF kind)) 21 = some (.int (lowF kind)) := j21
    have k36 : upd l4 36 (.int (lenF kind)) 36 = some (.int (lenF kind)) := rfl
    generalize upd l4 36 (.int (lenF kind)) = l5 at k34 k9 k35 k21 k36
    refine ends_step (sSet_eq (v := .list (ivs [p0, p1, p2, p3, p4])) ?_ rfl) ?_
    · rw [e37 k34 k36 rfl hL0, ← hp]; rfl
    have m34 : upd l5 37 (.list (ivs [p0, p1, p2, p3, p4])) 34 = some (.list (ivs [n0, n1, n2, n3, n4, n5, n6])) := k34
    have m9 : upd l5 37 (.list (ivs [p0, p1, p2, p3, p4])) 9 = some (.int kind) := k9
    have m35 : upd l5 37 (.list (ivs [p0, p1, p2, p3, p4])) 35 = some (.int ending) := k35
    have m21 : upd l5 37 (.list (ivs [p0, p1, p2, p3, p4])) 21 = some (.int (lowF kind)) := k21
    have m36 : upd l5 37 (.list (ivs [p0, p1, p2, p3, p4])) 36 = some (.int (lenF kind)) := k36
    have m37 : upd l5 37 (.list (ivs [p0, p1, p2, p3, p4])) 37 = some (.list (ivs [p0, p1, p2, p3, p4])) := rfl
    generalize upd l5 37 (.list (ivs [p0, p1, p2, p3, p4])) = l6 at m34 m9 m35 m21 m36 m37
    refine ends_step (sSet_eq (v := .list (ivs (uniq [p0, p1, p2, p3]))) ?_ rfl) ?_
    · exact e38 (P := [p0, p1, p2, p3, p4]) (by simp) m37
    generalize hU : V.list (ivs (uniq [p0, p1, p2, p3])) = U
    have q34 : upd l6 38 U 34 = some (.list (ivs [n0, n1, n2, n3, n4, n5, n6])) := m34
    have q9 : upd l6 38 U 9 = some (.int kind) := m9
    have q35 : upd l6 38 U 35 = some (.int ending) := m35
    have q21 : upd l6 38 U 21 = some (.int (lowF kind)) := m21
    have q36 : upd l6 38 U 36 = some (.int (lenF kind)) := m36
    have q37 : upd l6 38 U 37 = some (.list (ivs [p0, p1, p2, p3, p4])) := m37
    have q38 : upd l6 38 U 38 = some U := rfl
    generalize upd l6 38 U = l7 at q34 q9 q35 q21 q36 q37 q38
    refine ends_step (sSet_eq (v := .str ⟨([p0, p1, p2, p3].map (codeF (lowF kind))).toArray⟩) ?_ rfl) ?_
    · refine e11 (P := [p0, p1, p2, p3, p4]) rfl (by simp) q37 q21 fun p hp => ?_
      have := hr p (by simp only [List.mem_cons, List.not_mem_nil, or_false] at hp ⊢; rcases hp with h | h | h | h <;> simp [h])
      omega
    generalize hT : V.str ⟨([p0, p1, p2, p3].map (codeF (lowF kind))).toArray⟩ = T
    have r34 : upd l7 11 T 34 = some (.list (ivs [n0, n1, n2, n3, n4, n5, n6])) := q34
    have r9 : upd l7 11 T 9 = some (.int kind) := q9
    have r35 : upd l7 11 T 35 = some (.int ending) := q35
    have r21 : upd l7 11 T 21 = some (.int (lowF kind)) := q21
    have r36 : upd l7 11 T 36 = some (.int (lenF kind)) := q36
    have r37 : upd l7 11 T 37 = some (.list (ivs [p0, p1, p2, p3, p4])) := q37
    have r38 : upd l7 11 T 38 = some U := q38
    have r11 : upd l7 11 T 11 = some T := rfl
    generalize upd l7 11 T = l8 at r34 r9 r35 r21 r36 r37 r38 r11
    refine ends_step (sSet_eq (v := .list (sgns (uniq ([p0, p1, p2, p3].map (codeF (lowF kind)))))) ?_ rfl) ?_
    · rw [dCall_eq (args1 (a := dVar 11) r11 (by rw [← hT]; rfl)), ← hT]
      exact S31_eq _ (by simp)
    generalize hW : V.list (sgns (uniq ([p0, p1, p2, p3].map (codeF (lowF kind))))) = W
    have s34 : upd l8 12 W 34 = some (.list (ivs [n0, n1, n2, n3, n4, n5, n6])) := r34
    have s9 : upd l8 12 W 9 = some (.int kind) := r9
    have s35 : upd l8 12 W 35 = some (.int ending) := r35
    have s21 : upd l8 12 W 21 = some (.int (lowF kind)) := r21
    have s36 : upd l8 12 W 36 = some (.int (lenF kind)) := r36
    have s37 : upd l8 12 W 37 = some (.list (ivs [p0, p1, p2, p3, p4])) := r37
    have s38 : upd l8 12 W 38 = some U := r38
    have s11 : upd l8 12 W 11 = some T := r11
    have s12 : upd l8 12 W 12 = some W := rfl
    generalize upd l8 12 W = l9 at s34 s9 s35 s21 s36 s37 s38 s11 s12
    have hcs : ∀ p ∈ [p0, p1, p2, p3], ((codeF (lowF kind) p : Nat) : Int) - lowF kind = p := fun p hp => by
      have := hr p (by simp only [List.mem_cons, List.not_mem_nil, or_false] at hp ⊢; rcases hp with h | h | h | h <;> simp [h])
      unfold codeF
      omega
    have hmap : ([p0, p1, p2, p3].map (codeF (lowF kind))).map (fun (c : Nat) => (c : Int) - lowF kind) = [p0, p1, p2, p3] := by
      rw [List.map_map]; exact (List.map_congr_left (g := id) (fun p hp => hcs p hp)).trans (List.map_id _)
    have h4 : p4.natAbs ≤ 500 := by have := hr p4 (by simp); omega
    refine ends_step (sSet_eq (v := .list (rows (chainF (productF [p0, p1, p2, p3] p4 dep)))) ?_ rfl) ?_
    · have ed : dBin addV (dBin modV (dBin fdivV (dSub (dVar 34) (dInt 5)) (dInt 100)) (dInt 9)) (dInt 1) l9 = some (.int dep) := by
        rw [← hdep]
        exact dBin_add (dMod_eq (dFdiv_eq (g l9 s34 5 (by decide)) (b := dInt 100) rfl (by decide) (by decide)) (b := dInt 9) rfl (by decide)) rfl
      have em : dSub (dVar 37) (dInt 4) l9 = some (.int p4) := dSub_int (a := dVar 37) (b := dInt 4) (k := 4) s37 rfl (by simp) (by simp)
      have ep : dCall S34 (dCons (dVar 11) (dCons (dVar 21) (dCons (dSub (dVar 37) (dInt 4)) (dCons (dBin addV (dBin modV (dBin fdivV (dSub (dVar 34) (dInt 5)) (dInt 100)) (dInt 9)) (dInt 1)) dNil)))) l9 = some (.list (ivs (productF [p0, p1, p2, p3] p4 dep))) := by
        rw [dCall_eq (dCons_eq (a := dVar 11) s11 (by rw [← hT]; rfl) (dCons_eq (a := dVar 21) s21 rfl (args2 em rfl ed rfl))), ← hT]
        refine (S34_eq _ _ _ _ ?_ (by simp) (by omega) (by omega)).trans (by rw [hmap])
        intro c hc
        obtain ⟨p, hp, rfl⟩ := List.mem_map.mp hc
        rw [hcs p hp]
        have := hr p (by simp only [List.mem_cons, List.not_mem_nil, or_false] at hp ⊢; rcases hp with h | h | h | h <;> simp [h])
        omega
      rw [dCall_eq (args1 ep rfl)]
      have pl := (product_ev [p0, p1, p2, p3] p4 dep 0).2.2
      refine S36_eq _ 100 (by rw [pl]; simp) (by rw [pl]; simp) (product_head _ _ _) (Lo_product _ _ _ (by simp) ?_ h4 (by omega)) (by decide)
      intro p hp
      have := hr p (by simp only [List.mem_cons, List.not_mem_nil, or_false] at hp ⊢; rcases hp with h | h | h | h <;> simp [h])
      omega
    generalize hC : V.list (rows (chainF (productF [p0, p1, p2, p3] p4 dep))) = C
    have t34 : upd l9 30 C 34 = some (.list (ivs [n0, n1, n2, n3, n4, n5, n6])) := s34
    have t9 : upd l9 30 C 9 = some (.int kind) := s9
    have t35 : upd l9 30 C 35 = some (.int ending) := s35
    have t21 : upd l9 30 C 21 = some (.int (lowF kind)) := s21
    have t36 : upd l9 30 C 36 = some (.int (lenF kind)) := s36
    have t38 : upd l9 30 C 38 = some U := s38
    have t12 : upd l9 30 C 12 = some W := s12
    have t30 : upd l9 30 C 30 = some C := rfl
    generalize upd l9 30 C = l10 at t34 t9 t35 t21 t36 t38 t12 t30
    refine ends_step (sSet_eq (v := .int near) ?_ rfl) ?_
    · rw [← hnear]
      exact dBin_add (dMod_eq (g l10 t34 6 (by decide)) (b := dInt 12) rfl (by decide)) rfl
    have u34 : upd l10 39 (.int near) 34 = some (.list (ivs [n0, n1, n2, n3, n4, n5, n6])) := t34
    refine ends_step (sSet_eq (v := .int wide) ?_ rfl) ?_
    · rw [← hwide]
      exact dBin_add (dMod_eq (dFdiv_eq (g _ u34 6 (by decide)) (b := dInt 12) rfl (by decide) (by decide)) (b := dInt 12) rfl (by decide)) rfl
    exact ⟨_, rfl, t9, t35, t21, t36, t38, t12, t30, rfl, rfl⟩
end Mine
end
section
open PySem PySem.W PyProof.Rows
namespace Mine
theorem compL_gen {α : Type} {t : Loc → Option Bool} {de : DE} {l : Loc} {i : Nat} (mk : α → V) (f : α → Bool) (g : α → V) : ∀ ns : List α, (∀ n ∈ ns, t (upd l i (mk n)) = some (f n)) → (∀ n ∈ ns, f n = true → de (upd l i (mk n)) = some (g n) ∧ (g n).imm = true) →
    compL t de ((ns.map mk).map fun x => upd l i x) = some ((ns.filter f).map g)
  | [], _, _ => rfl
  | x :: r, h1, h2 => by
    have ih := compL_gen (t := t) (de := de) (l := l) (i := i) mk f g r (fun y hy => h1 y (List.mem_cons_of_mem _ hy)) (fun y hy => h2 y (List.mem_cons_of_mem _ hy))
    rw [List.map_cons, List.map_cons]
    unfold compL
    rw [h1 x List.mem_cons_self, Option.bind_some]
    cases hf : f x
    · rw [List.filter_cons_of_neg (by simp [hf])]
      simpa using ih
    · obtain ⟨e, hi⟩ := h2 x List.mem_cons_self hf
      rw [List.filter_cons_of_pos (by simp [hf])]
      simp only [if_true, e, Option.bind_some, hi, ih, Option.map_some, List.map_cons]
theorem comp_all {α : Type} {d : Loc → Option (List V)} {de : DE} {l : Loc} {i : Nat} (mk : α → V) (g : α → V) (ns : List α) (hd : d l = some (ns.map mk)) (h : ∀ n ∈ ns, de (upd l i (mk n)) = some (g n) ∧ (g n).imm = true) : dComp i d tAll de l = some (.list (ns.map g)) := by
  unfold dComp
  rw [hd, Option.bind_some, compL_gen mk (fun _ => true) g ns (fun _ _ => rfl) (fun n hn _ => h n hn), List.filter_eq_self.mpr (fun _ _ => rfl)]
  rfl
theorem comp_if {α : Type} {d : Loc → Option (List V)} {t : Loc → Option Bool} {l : Loc} {i : Nat} (mk : α → V) (f : α → Bool) (ns : List α) (hd : d l = some (ns.map mk)) (hm : ∀ n, (mk n).imm = true) (h : ∀ n ∈ ns, t (upd l i (mk n)) = some (f n)) : dComp i d t (dVar i) l = some (.list ((ns.filter f).map mk)) := by
  unfold dComp
  rw [hd, Option.bind_some, compL_gen mk f mk ns h (fun n _ _ => ⟨upd_self _ _ _, hm n⟩)]
  rfl
theorem len_of {a : DE} {l : Loc} {xs : List V} {n : Nat} (h : a l = some (.list xs)) (hn : xs.length = n) (hl : n ≤ 4096) : dCallL lenS (dConsL a dNil) l = some (.int n) := by
  subst hn; exact lenL_list h hl
theorem neL_bools (a : List Bool) : neL (.list (bvs a)) (.list (bvs a)) = some false := by
  cases a with
  | nil => rfl
  | cons b r =>
    have hb : ∀ r : List Bool, boolsV (bvs r) = some r := fun r => by
      induction r with
      | nil => rfl
      | cons b r ih =>
        show (boolsV (bvs r)).map _ = _
        rw [ih]; rfl
    show (match boolsV (bvs (b :: r)), boolsV (bvs (b :: r)) with
      | some x, some y => some (!decide (x = y))
      | _, _ => none) = _
    rw [hb]
    simp
theorem chainGo_bound {B : Nat} : ∀ (n : Nat) (a b : List Int), a.length ≤ B → b.length ≤ B → (chainGo n a b).length ≤ n + 2 ∧ ∀ p ∈ chainGo n a b, p.length ≤ B
  | 0, a, b, ha, hb => ⟨Nat.le_refl _, fun p hp => by
      unfold chainGo at hp
      simp only [List.mem_cons, List.not_mem_nil, or_false] at hp
      rcases hp with rfl | rfl
      · exact ha
      · exact hb⟩
  | n + 1, a, b, ha, hb => by
    unfold chainGo
    have hr : (restF a b).length ≤ B := by
      unfold restF
      rw [List.length_map]
      exact Nat.le_trans (List.dropWhile_sublist _).length_le (Nat.le_trans (restLoop_len _ _ _) ha)
    split
    · refine ⟨by simp, fun p hp => ?_⟩
      simp only [List.mem_cons, List.not_mem_nil, or_false] at hp
      rcases hp with rfl | rfl
      · exact ha
      · exact hb
    · rename_i r l e
      rw [e] at hr
      obtain ⟨h1, h2⟩ := chainGo_bound n b (r :: l) hb hr
      refine ⟨by simp only [List.length_cons]; omega, fun p hp => ?_⟩
      rcases List.mem_cons.mp hp with rfl | hp
      · exact ha
      · exact h2 p hp
theorem S1_told (c d : Nat) {l : Loc} {a b : DE} (ha : a l = some (sgn c)) (hb : b l = some (sgn d)) : tVal (dCall S1 (dCons (dCall S13 (dCons a (dCons b dNil))) (dCons (dInt 1) dNil))) l = some (decide (c ≤ d)) := by
  refine tVal_eq ?_
  have e : dCall S13 (dCons a (dCons b dNil)) l = some (.int ((if d < c then 1 else 0) - (if c < d then 1 else 0))) := by
    rw [dCall_eq (args2 ha rfl hb rfl), S13_sgn]
  rw [dCall_eq (args2 e rfl (b := dInt 1) rfl rfl), S1_int]
  congr 2
  apply decide_eq_decide.mpr
  split <;> split <;> omega
theorem filter_map_len {α β : Type} (f : α → β) (p : β → Bool) (q : α → Bool) (l : List α) (h : ∀ x ∈ l, p (f x) = q x) : ((l.map f).filter p).length = (l.filter q).length := by
  rw [List.filter_map, List.length_map]
  congr 1
  exact List.filter_congr h
end Mine
end
section
open PySem PySem.W PyProof.Rows
namespace Mine
structure Post (kind ending : Nat) (ps : List Int) (m d near wide : Int) (ms : List Int) : Prop where
  k6 : kind < 6
  e3 : ending < 3
  four : ps.length = 4
  low : ∀ p ∈ ps, -3 ≤ p ∧ p < (lenF kind : Int) + 3
  dep : 0 < d
  hms : ms = (List.range (if ending = 0 then 4 else 2)).map fun (k : Nat) => near - 4 + wide * (k : Int)
  mb : ∀ mk ∈ ms, -3 ≤ mk ∧ mk ≤ 100
  wd : wide.natAbs < 2 ^ 20
structure At (kind ending : Nat) (ps : List Int) (m d near wide : Int) (ms : List Int) (l : Loc) : Prop where
  h9 : l 9 = some (.int kind)
  h35 : l 35 = some (.int ending)
  h21 : l 21 = some (.int (lowF kind))
  h36 : l 36 = some (.int (lenF kind))
  h38 : l 38 = some (.list (ivs (uniq ps)))
  h12 : l 12 = some (.list (sgns (uniq (ps.map (codeF (lowF kind))))))
  h30 : l 30 = some (.list (rows (chainF (productF ps m d))))
  h39 : l 39 = some (.int near)
  h40 : l 40 = some (.int wide)
  h14 : l 14 = some (.list (ivs ms))
variable {kind ending : Nat} {ps : List Int} {m d near wide : Int} {ms : List Int}
theorem At.upd' {l : Loc} (h : At kind ending ps m d near wide ms l) (i : Nat) (v : V) (hi : i ∉ [9, 35, 21, 36, 38, 12, 30, 39, 40, 14]) : At kind ending ps m d near wide ms (upd l i v) := by
  simp only [List.mem_cons, List.not_mem_nil, or_false, not_or] at hi
  obtain ⟨a, b, c, e, f, g, j, k, n, o⟩ := hi
  have key : ∀ j, i ≠ j → upd l i v j = l j := fun j hj => upd_ne _ _ (fun e => hj e.symm)
  exact ⟨(key _ a).trans h.h9, (key _ b).trans h.h35, (key _ c).trans h.h21, (key _ e).trans h.h36, (key _ f).trans h.h38, (key _ g).trans h.h12, (key _ j).trans h.h30, (key _ k).trans h.h39, (key _ n).trans h.h40, (key _ o).trans h.h14⟩
theorem Post.codes (P : Post kind ending ps m d near wide ms) : uniq (ps.map (codeF (lowF kind))) = (uniq ps).map (codeF (lowF kind)) := by
  refine uniq_map _ _ fun x hx y hy e => ?_
  have h1 := P.low x hx
  have h2 := P.low y hy
  have h3 := lowF_range P.k6
  unfold codeF at e
  omega
noncomputable def dueF (ps ms : List Int) : List Int := ms.map fun mk => (((uniq ps).filter fun p => decide (p ≤ mk)).length : Int)
theorem m_step {l : Loc} (P : Post kind ending ps m d near wide ms) (h : At kind ending ps m d near wide ms l) :
    tCmp neL (dVar 14) (dComp 8 (iRange (dCons (dIte (tCmp eqV (dVar 35) (dInt 0)) (dInt 4) (dInt 2)) dNil)) tAll (dBin addV (dBin subV (dVar 39) (dInt 4)) (dBin mulV (dVar 40) (dVar 8)))) l = some false := by
  have t : tCmp eqV (dVar 35) (dInt 0) l = some ((ending : Int) == 0) := tCmp_eq (a := dVar 35) h.h35 (b := dInt 0) rfl rfl
  have hn : dIte (tCmp eqV (dVar 35) (dInt 0)) (dInt 4) (dInt 2) l = some (.int ((if ending = 0 then 4 else 2 : Nat) : Int)) := by
    rw [dIte_eq t]
    by_cases h0 : ending = 0
    · subst h0; rfl
    · rw [if_neg (by simpa using h0), if_neg h0]; rfl
  have hi : iRange (dCons (dIte (tCmp eqV (dVar 35) (dInt 0)) (dInt 4) (dInt 2)) dNil) l = some ((List.range (if ending = 0 then 4 else 2)).map fun (k : Nat) => V.int (0 + (k : Int))) := iRange1 hn (by split <;> omega)
  have hc := comp_all (i := 8) (de := dBin addV (dBin subV (dVar 39) (dInt 4)) (dBin mulV (dVar 40) (dVar 8))) (l := l) (fun (k : Nat) => V.int (0 + (k : Int))) (fun (k : Nat) => V.int (near - 4 + wide * (k : Int))) _ hi (fun k hk => ⟨?_, rfl⟩)
  · refine tCmp_eq (a := dVar 14) h.h14 hc ?_
    have : (List.range (if ending = 0 then 4 else 2)).map (fun (k : Nat) => V.int (near - 4 + wide * (k : Int))) = ivs ms := by
      rw [P.hms]; unfold ivs; rw [List.map_map]; rfl
    rw [this, neL_ints]
    simp
  · have h' := h.upd' 8 (.int (0 + (k : Int))) (by decide)
    have a8 : upd l 8 (.int (0 + (k : Int))) 8 = some (.int (k : Int)) := by rw [upd_self]; congr 2; omega
    generalize upd l 8 (.int (0 + (k : Int))) = K at h' a8
    have hk := List.mem_range.mp hk
    have hk4 : k < 4 := Nat.lt_of_lt_of_le hk (by split <;> omega)
    exact dBin_add (dBin_sub (a := dVar 39) h'.h39 (b := dInt 4) rfl) (dMul_eq (a := dVar 40) (b := dVar 8) h'.h40 a8 (fits_right (by omega)))
theorem due_step {l : Loc} (P : Post kind ending ps m d near wide ms) (h : At kind ending ps m d near wide ms l) :
    dComp 41 (iList (dVar 14)) tAll (dCallL lenS (dConsL (dComp 15 (iList (dVar 38)) (tCmp leV (dVar 15) (dVar 41)) (dVar 15)) dNil)) l = some (.list (ivs (dueF ps ms))) := by
  have hml : ms.length ≤ 4 := by rw [P.hms, List.length_map, List.length_range]; split <;> omega
  have hul := uniq_length ps
  have h4 := P.four
  have hc := comp_all (i := 41) (d := iList (dVar 14)) (l := l) V.int (fun mk => V.int (((uniq ps).filter fun p => decide (p ≤ mk)).length : Int)) ms (iList_eq (a := dVar 14) h.h14 (by first | (rw [List.length_map]; omega) | (rw [ivs_length]; omega))) (de := dCallL lenS (dConsL (dComp 15 (iList (dVar 38)) (tCmp leV (dVar 15) (dVar 41)) (dVar 15)) dNil)) (fun mk hmk => ⟨?_, rfl⟩)
  · rw [hc]
    unfold dueF ivs
    rw [List.map_map]
    rfl
  · have h' := h.upd' 41 (.int mk) (by decide)
    have a41 : upd l 41 (.int mk) 41 = some (.int mk) := upd_self _ _ _
    generalize upd l 41 (.int mk) = K at h' a41
    refine len_of (comp_if (i := 15) (l := K) V.int (fun p => decide (p ≤ mk)) (uniq ps) (iList_eq (a := dVar 38) h'.h38 (by first | (rw [List.length_map]; omega) | (rw [ivs_length]; omega))) (fun _ => rfl) (fun p hp => ?_)) (by rw [List.length_map]) (by have := List.length_filter_le (fun p => decide (p ≤ mk)) (uniq ps); omega)
    exact tCmp_eq (a := dVar 15) (upd_self _ _ _) (b := dVar 41) (by rw [show dVar 41 (upd K 15 (.int p)) = upd K 15 (.int p) 41 from rfl, upd_ne _ _ (by decide)]; exact a41) rfl
theorem told_step {l : Loc} (P : Post kind ending ps m d near wide ms) (h : At kind ending ps m d near wide ms l) :
    dComp 41 (iList (dVar 14)) tAll (dCallL lenS (dConsL (dComp 10 (iList (dVar 12)) (tVal (dCall S1 (dCons (dCall S13 (dCons (dVar 10) (dCons (dCall chrS (dCons (dBin addV (dVar 21) (dVar 41)) dNil)) dNil))) (dCons (dInt 1) dNil)))) (dVar 10)) dNil)) l = some (.list (ivs (dueF ps ms))) := by
  have hml : ms.length ≤ 4 := by rw [P.hms, List.length_map, List.length_range]; split <;> omega
  have hul := uniq_length ps
  have hcl := uniq_length (ps.map (codeF (lowF kind)))
  have h4 := P.four
  rw [List.length_map] at hcl
  have hc := comp_all (i := 41) (d := iList (dVar 14)) (l := l) V.int (fun mk => V.int (((uniq ps).filter fun p => decide (p ≤ mk)).length : Int)) ms (iList_eq (a := dVar 14) h.h14 (by first | (rw [List.length_map]; omega) | (rw [ivs_length]; omega))) (de := dCallL lenS (dConsL (dComp 10 (iList (dVar 12)) (tVal (dCall S1 (dCons (dCall S13 (dCons (dVar 10) (dCons (dCall chrS (dCons (dBin addV (dVar 21) (dVar 41)) dNil)) dNil))) (dCons (dInt 1) dNil)))) (dVar 10)) dNil)) (fun mk hmk => ⟨?_, rfl⟩)
  · rw [hc]
    unfold dueF ivs
    rw [List.map_map]
    rfl
  · have h' := h.upd' 41 (.int mk) (by decide)
    have a41 : upd l 41 (.int mk) 41 = some (.int mk) := upd_self _ _ _
    generalize upd l 41 (.int mk) = K at h' a41
    have hmb := P.mb mk hmk
    have hlo := lowF_range P.k6
    refine len_of (comp_if (i := 10) (l := K) sgn (fun c => decide (c ≤ codeF (lowF kind) mk)) (uniq (ps.map (codeF (lowF kind)))) (iList_eq (a := dVar 12) h'.h12 (by rw [List.length_map]; omega)) (fun _ => rfl) (fun c hc => ?_)) ?_ (by have := List.length_filter_le (fun p => decide (p ≤ mk)) (uniq ps); omega)
    · have b21 : upd K 10 (sgn c) 21 = some (.int (lowF kind)) := by rw [upd_ne _ _ (by decide)]; exact h'.h21
      have b41 : upd K 10 (sgn c) 41 = some (.int mk) := by rw [upd_ne _ _ (by decide)]; exact a41
      have b10 : upd K 10 (sgn c) 10 = some (sgn c) := upd_self _ _ _
      generalize upd K 10 (sgn c) = M at b21 b41 b10
      refine S1_told c (codeF (lowF kind) mk) (a := dVar 10) b10 ?_
      rw [dCall_eq (args1 (dBin_add (a := dVar 21) (b := dVar 41) b21 b41) rfl)]
      exact if_pos (by omega)
    · rw [List.length_map, P.codes]
      refine filter_map_len _ _ _ _ fun p hp => ?_
      have := P.low p ((uniq_mem ps p).mp hp)
      apply decide_eq_decide.mpr
      unfold codeF
      omega
theorem changes_at {l : Loc} {a : DE} {x : Int} (h : At kind ending ps m d near wide ms l) (h4 : ps.length = 4) (ha : a l = some (.int x)) (hx : x.natAbs < 2 ^ 63) : dCall S37 (dCons (dVar 30) (dCons a dNil)) l = some (.int (changesF (chainF (productF ps m d)) x)) := by
  rw [dCall_eq (args2 (a := dVar 30) h.h30 rfl ha rfl)]
  have pl := (product_ev ps m d 0).2.2
  have dl := derivF_length (productF ps m d)
  obtain ⟨b1, b2⟩ := chainGo_bound (B := 7) ((productF ps m d).length + 1) (productF ps m d) (derivF (productF ps m d)) (by omega) (by omega)
  exact S37_eq _ _ hx (by unfold chainF; omega) (fun p hp => Nat.le_trans (b2 p hp) (by decide))
theorem lost_step {l : Loc} (P : Post kind ending ps m d near wide ms) (h : At kind ending ps m d near wide ms l) (h44 : l 44 = some (.int (changesF (chainF (productF ps m d)) (-7)))) :
    dComp 41 (iList (dVar 14)) tAll (dCall S6 (dCons (dVar 44) (dCons (dCall S37 (dCons (dVar 30) (dCons (dBin addV (dBin mulV (dInt 2) (dVar 41)) (dInt 1)) dNil))) dNil))) l = some (.list (ivs (dueF ps ms))) := by
  have hml : ms.length ≤ 4 := by rw [P.hms, List.length_map, List.length_range]; split <;> omega
  have hc := comp_all (i := 41) (d := iList (dVar 14)) (l := l) V.int (fun mk => V.int (((uniq ps).filter fun p => decide (p ≤ mk)).length : Int)) ms (iList_eq (a := dVar 14) h.h14 (by first | (rw [List.length_map]; omega) | (rw [ivs_length]; omega))) (de := dCall S6 (dCons (dVar 44) (dCons (dCall S37 (dCons (dVar 30) (dCons (dBin addV (dBin mulV (dInt 2) (dVar 41)) (dInt 1)) dNil))) dNil))) (fun mk hmk => ⟨?_, rfl⟩)
  · rw [hc]
    unfold dueF ivs
    rw [List.map_map]
    rfl
  · have h' := h.upd' 41 (.int mk) (by decide)
    have a41 : upd l 41 (.int mk) 41 = some (.int mk) := upd_self _ _ _
    have a44 : upd l 41 (.int mk) 44 = some (.int (changesF (chainF (productF ps m d)) (-7))) := by rw [upd_ne _ _ (by decide)]; exact h44
    generalize upd l 41 (.int mk) = K at h' a41 a44
    have hmb := P.mb mk hmk
    have e1 : dBin addV (dBin mulV (dInt 2) (dVar 41)) (dInt 1) K = some (.int (2 * mk + 1)) := dBin_add (dMul_eq (a := dInt 2) (b := dVar 41) rfl a41 (fits_right (by omega))) rfl
    rw [dCall_eq (args2 (a := dVar 44) a44 rfl (changes_at h' P.four e1 (by omega)) rfl), S6_int]
    have e2 := lost_eq ps m d P.dep (-3) (mk + 4).toNat
    rw [show (2 * (-3 : Int) - 1) = -7 by decide, show (2 * (-3 + ((mk + 4).toNat : Int)) - 1) = 2 * mk + 1 by omega] at e2
    have e3 : ((uniq ps).filter fun p => decide (-3 ≤ p ∧ p < -3 + ((mk + 4).toNat : Int))) = (uniq ps).filter fun p => decide (p ≤ mk) := by
      refine List.filter_congr fun p hp => ?_
      have := P.low p ((uniq_mem ps p).mp hp)
      apply decide_eq_decide.mpr
      omega
    rw [e3] at e2
    rw [e2]
    congr 2
    push_cast
    omega
end Mine
end
section
open PySem PySem.W PyProof.Rows
namespace Mine
variable {kind ending : Nat} {ps : List Int} {m d near wide : Int} {ms : List Int}
noncomputable def heldF (kind : Nat) (ps : List Int) : List Bool := (uniq ps).map fun p => decide (0 ≤ p ∧ p < (lenF kind : Int))
theorem held_step {l : Loc} (P : Post kind ending ps m d near wide ms) (h : At kind ending ps m d near wide ms l) :
    dComp 10 (iList (dVar 12)) tAll (dCall (S30 inSets) (dCons (dVar 9) (dCons (dVar 10) dNil))) l = some (.list (bvs (heldF kind ps))) := by
  have hul := uniq_length ps
  have h4 := P.four
  have hs : l 12 = some (.list ((uniq ps).map fun p => sgn (codeF (lowF kind) p))) := by
    rw [h.h12, P.codes]
    unfold sgns
    rw [List.map_map]
    rfl
  have hc := comp_all (i := 10) (d := iList (dVar 12)) (l := l) (fun p => sgn (codeF (lowF kind) p)) (fun p => V.bool (decide (0 ≤ p ∧ p < (lenF kind : Int)))) (uniq ps) (iList_eq (a := dVar 12) hs (by rw [List.length_map]; omega)) (de := dCall (S30 inSets) (dCons (dVar 9) (dCons (dVar 10) dNil))) (fun p hp => ⟨?_, rfl⟩)
  · rw [hc]
    unfold heldF bvs
    rw [List.map_map]
    rfl
  · have h' := h.upd' 10 (sgn (codeF (lowF kind) p)) (by decide)
    have a10 : upd l 10 (sgn (codeF (lowF kind) p)) 10 = some (sgn (codeF (lowF kind) p)) := upd_self _ _ _
    generalize upd l 10 (sgn (codeF (lowF kind) p)) = K at h' a10
    rw [dCall_eq (args2 (a := dVar 9) (b := dVar 10) h'.h9 rfl a10 rfl), S30_eq _ _ _ P.k6]
    have hlo := lowF_range P.k6
    have hp' := P.low p ((uniq_mem ps p).mp hp)
    have e : codeF (lowF kind) p = (lowF kind - 3).toNat + (p + 3).toNat := by unfold codeF; omega
    rw [e, holds_run kind P.k6 _ (by omega)]
    congr 2
    apply decide_eq_decide.mpr
    omega
theorem shape_step {l : Loc} (P : Post kind ending ps m d near wide ms) (h : At kind ending ps m d near wide ms l) :
    dComp 15 (iList (dVar 38)) tAll (dChain leV ltSV (dInt 0) (dVar 15) (dVar 36)) l = some (.list (bvs (heldF kind ps))) := by
  have hul := uniq_length ps
  have h4 := P.four
  have hc := comp_all (i := 15) (d := iList (dVar 38)) (l := l) V.int (fun p => V.bool (decide (0 ≤ p ∧ p < (lenF kind : Int)))) (uniq ps) (iList_eq (a := dVar 38) h.h38 (by rw [List.length_map]; omega)) (de := dChain leV ltSV (dInt 0) (dVar 15) (dVar 36)) (fun p hp => ⟨?_, rfl⟩)
  · rw [hc]
    unfold heldF bvs
    rw [List.map_map]
    rfl
  · have h' := h.upd' 15 (.int p) (by decide)
    have a15 : upd l 15 (.int p) 15 = some (.int p) := upd_self _ _ _
    generalize upd l 15 (.int p) = K at h' a15
    unfold dChain
    rw [show dInt 0 K = some (.int 0) from rfl, Option.bind_some, show dVar 15 K = K 15 from rfl, a15, Option.bind_some]
    show (some (decide (0 ≤ p))).bind _ = _
    rw [Option.bind_some]
    by_cases h0 : 0 ≤ p
    · rw [if_pos (by simpa using h0), show dVar 36 K = K 36 from rfl, h'.h36, Option.bind_some]
      show some (V.bool (decide (p < (lenF kind : Int)))) = _
      congr 2
      apply decide_eq_decide.mpr
      omega
    · rw [if_neg (by simpa using h0)]
      congr 2
      exact (decide_eq_false (fun h => h0 h.1)).symm
theorem within_step {l : Loc} (P : Post kind ending ps m d near wide ms) (h : At kind ending ps m d near wide ms l) :
    dCall S6 (dCons (dCall S37 (dCons (dVar 30) (dCons (dNeg (dInt 1)) dNil))) (dCons (dCall S37 (dCons (dVar 30) (dCons (dBin subV (dBin mulV (dInt 2) (dVar 36)) (dInt 1)) dNil))) dNil)) l = some (.int (((heldF kind ps).filter id).length : Int)) := by
  have hln := lenF_range P.k6
  have e1 : dBin subV (dBin mulV (dInt 2) (dVar 36)) (dInt 1) l = some (.int (2 * (lenF kind : Int) - 1)) := dBin_sub (dMul_eq (a := dInt 2) (b := dVar 36) rfl h.h36 (fits_right (by omega))) rfl
  have e0 : dNeg (dInt 1) l = some (.int (-1)) := rfl
  rw [dCall_eq (args2 (changes_at h P.four e0 (by decide)) rfl (changes_at h P.four e1 (by omega)) rfl), S6_int]
  have e2 := lost_eq ps m d P.dep 0 (lenF kind)
  rw [show (2 * (0 : Int) - 1) = -1 by decide, show (2 * (0 + (lenF kind : Int)) - 1) = 2 * (lenF kind : Int) - 1 by omega] at e2
  have e3 : ((heldF kind ps).filter id).length = ((uniq ps).filter fun p => decide (0 ≤ p ∧ p < 0 + (lenF kind : Int))).length := by
    unfold heldF
    refine filter_map_len _ _ _ _ fun p hp => ?_
    show decide _ = decide _
    apply decide_eq_decide.mpr
    omega
  rw [e3, e2]
  congr 2
  push_cast
  omega
theorem last_step {l : Loc} (P : Post kind ending ps m d near wide ms) (h : At kind ending ps m d near wide ms l) :
    dCmp eqV (dCallL lenS (dConsL (dSub (dVar 30) (dNeg (dInt 1))) dNil)) (dBin subV (dInt 5) (dCallL lenS (dConsL (dVar 38) dNil))) l = some (.bool true) := by
  have h4 := P.four
  have hul := uniq_length ps
  obtain ⟨g, hg, hlen⟩ := last_eq ps m d P.dep
  have pl := (product_ev ps m d 0).2.2
  have dl := derivF_length (productF ps m d)
  obtain ⟨b1, b2⟩ := chainGo_bound (B := 7) ((productF ps m d).length + 1) (productF ps m d) (derivF (productF ps m d)) (by omega) (by omega)
  have hcl : (chainF (productF ps m d)).length ≤ 4000 := by unfold chainF; omega
  have hpos : 0 < (chainF (productF ps m d)).length := by
    cases hc : chainF (productF ps m d) with
    | nil => rw [hc] at hg; simp at hg
    | cons a b => simp
  have e1 : dSub (dVar 30) (dNeg (dInt 1)) l = some (.list (ivs g)) := by
    refine dSub_listN (a := dVar 30) (k := 0) h.h30 rfl (by rw [rows_length]; omega) (by rw [rows_length]; omega) ?_
    rw [rows_length]
    unfold rows
    rw [List.getElem?_map, ← List.getLast?_eq_getElem?, hg]
    rfl
  have e2 := len_of e1 (ivs_length g) (by omega)
  have e3 := len_of (a := dVar 38) h.h38 (ivs_length (uniq ps)) (by omega)
  refine dCmp_eq e2 (dBin_sub (a := dInt 5) rfl e3) ?_
  show some ((g.length : Int) == 5 - (uniq ps).length) = _
  congr 1
  rw [beq_iff_eq]
  omega
theorem post_go {lp : Loc} (P : Post kind ending ps m d near wide ms) (h : At kind ending ps m d near wide ms lp) : denPost inSets lp = some (.ret (.bool true)) := by
  have h4 := P.four
  have hul := uniq_length ps
  unfold denPost
  refine (sCons_eq (l' := lp) ?_).trans ?_
  · rw [sIf_eq (m_step P h)]; rfl
  refine (sCons_eq (sSet_eq (due_step P h) rfl)).trans ?_
  have a42 : upd lp 42 (.list (ivs (dueF ps ms))) 42 = some (.list (ivs (dueF ps ms))) := upd_self _ _ _
  have h := h.upd' 42 (.list (ivs (dueF ps ms))) (by decide)
  generalize upd lp 42 (.list (ivs (dueF ps ms))) = l at h a42
  refine (sCons_eq (sSet_eq (told_step P h) rfl)).trans ?_
  have b42 : upd l 43 (.list (ivs (dueF ps ms))) 42 = some (.list (ivs (dueF ps ms))) := by rw [upd_ne _ _ (by decide)]; exact a42
  have b43 : upd l 43 (.list (ivs (dueF ps ms))) 43 = some (.list (ivs (dueF ps ms))) := upd_self _ _ _
  have h := h.upd' 43 (.list (ivs (dueF ps ms))) (by decide)
  generalize upd l 43 (.list (ivs (dueF ps ms))) = l at h b42 b43
  refine (sCons_eq (sSet_eq (changes_at h P.four (a := dNeg (dInt 7)) (x := -7) rfl (by decide)) rfl)).trans ?_
  have c42 : upd l 44 (.int (changesF (chainF (productF ps m d)) (-7))) 42 = some (.list (ivs (dueF ps ms))) := by rw [upd_ne _ _ (by decide)]; exact b42
  have c43 : upd l 44 (.int (changesF (chainF (productF ps m d)) (-7))) 43 = some (.list (ivs (dueF ps ms))) := by rw [upd_ne _ _ (by decide)]; exact b43
  have c44 : upd l 44 (.int (changesF (chainF (productF ps m d)) (-7))) 44 = some (.int (changesF (chainF (productF ps m d)) (-7))) := upd_self _ _ _
  have h := h.upd' 44 (.int (changesF (chainF (productF ps m d)) (-7))) (by decide)
  generalize upd l 44 (.int (changesF (chainF (productF ps m d)) (-7))) = l at h c42 c43 c44
  refine (sCons_eq (sSet_eq (lost_step P h c44) rfl)).trans ?_
  have d42 : upd l 45 (.list (ivs (dueF ps ms))) 42 = some (.list (ivs (dueF ps ms))) := by rw [upd_ne _ _ (by decide)]; exact c42
  have d43 : upd l 45 (.list (ivs (dueF ps ms))) 43 = some (.list (ivs (dueF ps ms))) := by rw [upd_ne _ _ (by decide)]; exact c43
  have d45 : upd l 45 (.list (ivs (dueF ps ms))) 45 = some (.list (ivs (dueF ps ms))) := upd_self _ _ _
  have h := h.upd' 45 (.list (ivs (dueF ps ms))) (by decide)
  generalize upd l 45 (.list (ivs (dueF ps ms))) = l at h d42 d43 d45
  have t : tOr (tCmp neL (dVar 43) (dVar 42)) (tCmp neL (dVar 45) (dVar 42)) l = some false := by
    have q : neL (.list (ivs (dueF ps ms))) (.list (ivs (dueF ps ms))) = some false := by rw [neL_ints]; simp
    unfold tOr
    rw [tCmp_eq (a := dVar 43) (b := dVar 42) d43 d42 q, Option.bind_some, tCmp_eq (a := dVar 45) (b := dVar 42) d45 d42 q]
    rfl
  refine (sCons_eq (l' := l) ?_).trans ?_
  · rw [sIf_eq t]; rfl
  refine (sCons_eq (sSet_eq (held_step P h) rfl)).trans ?_
  have f46 : upd l 46 (.list (bvs (heldF kind ps))) 46 = some (.list (bvs (heldF kind ps))) := upd_self _ _ _
  have h := h.upd' 46 (.list (bvs (heldF kind ps))) (by decide)
  generalize upd l 46 (.list (bvs (heldF kind ps))) = l at h f46
  refine (sCons_eq (l' := l) ?_).trans ?_
  · rw [sIf_eq (tCmp_eq (a := dVar 46) f46 (shape_step P h) (neL_bools _))]; rfl
  refine (sCons_eq (sSet_eq (within_step P h) rfl)).trans ?_
  have g46 : upd l 47 (.int (((heldF kind ps).filter id).length : Int)) 46 = some (.list (bvs (heldF kind ps))) := by rw [upd_ne _ _ (by decide)]; exact f46
  have g47 : upd l 47 (.int (((heldF kind ps).filter id).length : Int)) 47 = some (.int (((heldF kind ps).filter id).length : Int)) := upd_self _ _ _
  have h := h.upd' 47 (.int (((heldF kind ps).filter id).length : Int)) (by decide)
  generalize upd l 47 (.int (((heldF kind ps).filter id).length : Int)) = l at h g46 g47
  refine sCons_ret (sRet_eq ?_ rfl)
  have e8 : dCall S8 (dCons (dVar 46) (dCons (dBool true) dNil)) l = some (.int (((heldF kind ps).filter id).length : Int)) := by
    rw [dCall_eq (args2 (a := dVar 46) (b := dBool true) g46 rfl rfl rfl)]
    exact S8_eq _ (by unfold heldF; rw [List.length_map]; omega)
  have e9 : dCmp eqV (dVar 47) (dCall S8 (dCons (dVar 46) (dCons (dBool true) dNil))) l = some (.bool true) := dCmp_eq (a := dVar 47) g47 e8 (by simp [eqV])
  unfold dAnd
  rw [e9]
  exact last_step P h
end Mine
end
section
open PySem PySem.W PyProof.Rows
namespace Mine
theorem body32_next {l : Loc} {acc : List Int} {pl x : Int} (h14 : l 14 = some (.own (ivs acc))) (h15 : l 15 = some (.int pl)) (h16 : l 16 = some (.int x)) (hl : acc.length + 1 < 4) :
    ∃ l', den32_2 l = some (.next l') ∧ l' 14 = some (.own (ivs (acc ++ [pl + x]))) ∧ l' 15 = some (.int (pl + x)) := by
  unfold den32_2
  have e1 : dCall S9 (dCons (dVar 15) (dCons (dVar 16) dNil)) l = some (.int (pl + x)) := by
    rw [dCall_eq (args2 (a := dVar 15) (b := dVar 16) h15 rfl h16 rfl), S9_int]
  rw [sCons_eq (sSet_eq e1 rfl)]
  have a14 : upd l 15 (.int (pl + x)) 14 = some (.own (ivs acc)) := by rw [upd_ne _ _ (by decide)]; exact h14
  have a15 : upd l 15 (.int (pl + x)) 15 = some (.int (pl + x)) := upd_self _ _ _
  generalize upd l 15 (.int (pl + x)) = K at a14 a15
  rw [sCons_eq (sApp_eq (a := dVar 15) a14 a15 rfl (by rw [ivs_length]; omega))]
  have b14 : upd (upd K 14 (.own (ivs acc ++ [.int (pl + x)]))) 14 (.own (ivs acc ++ [.int (pl + x)])) 14 = some (.own (ivs (acc ++ [pl + x]))) := by
    rw [upd_self]; simp [ivs]
  have b15 : upd (upd K 14 (.own (ivs acc ++ [.int (pl + x)]))) 14 (.own (ivs acc ++ [.int (pl + x)])) 15 = some (.int (pl + x)) := by rw [upd_ne _ _ (by decide), upd_ne _ _ (by decide)]; exact a15
  generalize upd (upd K 14 (.own (ivs acc ++ [.int (pl + x)]))) 14 (.own (ivs acc ++ [.int (pl + x)])) = M at b14 b15
  have len := lenL_own b14 (by rw [ivs_length]; simp only [List.length_append, List.length_cons, List.length_nil]; omega)
  rw [ivs_length] at len
  have t : tCmp eqV (dCallL lenS (dConsL (dVar 14) dNil)) (dInt 4) M = some (((acc ++ [pl + x]).length : Int) == 4) := tCmp_eq len (b := dInt 4) rfl rfl
  refine ⟨M, (sCons_eq (l' := M) ?_).trans rfl, b14, b15⟩
  rw [sIf_eq t, if_neg ?_]
  · rfl
  · rw [beq_iff_eq]
    simp only [List.length_append, List.length_cons, List.length_nil]
    omega
theorem sCons_brk {a b : DS} {l l' : Loc} (h : a l = some (.brk l')) : sCons a b l = some (.brk l') := by unfold sCons; rw [h]; rfl
theorem body32_brk {l : Loc} {acc : List Int} {pl x : Int} (h14 : l 14 = some (.own (ivs acc))) (h15 : l 15 = some (.int pl)) (h16 : l 16 = some (.int x)) (hl : acc.length + 1 = 4) :
    ∃ l', den32_2 l = some (.brk l') ∧ l' 14 = some (.own (ivs (acc ++ [pl + x]))) := by
  unfold den32_2
  have e1 : dCall S9 (dCons (dVar 15) (dCons (dVar 16) dNil)) l = some (.int (pl + x)) := by
    rw [dCall_eq (args2 (a := dVar 15) (b := dVar 16) h15 rfl h16 rfl), S9_int]
  rw [sCons_eq (sSet_eq e1 rfl)]
  have a14 : upd l 15 (.int (pl + x)) 14 = some (.own (ivs acc)) := by rw [upd_ne _ _ (by decide)]; exact h14
  have a15 : upd l 15 (.int (pl + x)) 15 = some (.int (pl + x)) := upd_self _ _ _
  generalize upd l 15 (.int (pl + x)) = K at a14 a15
  rw [sCons_eq (sApp_eq (a := dVar 15) a14 a15 rfl (by rw [ivs_length]; omega))]
  have b14 : upd (upd K 14 (.own (ivs acc ++ [.int (pl + x)]))) 14 (.own (ivs acc ++ [.int (pl + x)])) 14 = some (.own (ivs (acc ++ [pl + x]))) := by
    rw [upd_self]; simp [ivs]
  generalize upd (upd K 14 (.own (ivs acc ++ [.int (pl + x)]))) 14 (.own (ivs acc ++ [.int (pl + x)])) = M at b14
  have len := lenL_own b14 (by rw [ivs_length]; simp only [List.length_append, List.length_cons, List.length_nil]; omega)
  rw [ivs_length] at len
  have t : tCmp eqV (dCallL lenS (dConsL (dVar 14) dNil)) (dInt 4) M = some (((acc ++ [pl + x]).length : Int) == 4) := tCmp_eq len (b := dInt 4) rfl rfl
  refine ⟨M, ?_, b14⟩
  have : sIf (tCmp eqV (dCallL lenS (dConsL (dVar 14) dNil)) (dInt 4)) (sCons sBrk sNil) sNil M = some (.brk M) := by
    rw [sIf_eq t, if_pos ?_]
    · rfl
    · rw [beq_iff_eq]
      simp only [List.length_append, List.length_cons, List.length_nil]
      omega
  exact sCons_brk this
theorem forG_next {z : Bool} {i : Nat} {b : DS} {x : Int} {r : List Int} {l l' : Loc} (h : b (upd l i (.int x)) = some (.next l')) : forG z i b (x :: r) l = forG z i b r l' := by
  show (b (upd l i (.int x))).bind _ = _
  rw [h]; rfl
theorem forG_brk {z : Bool} {i : Nat} {b : DS} {x : Int} {r : List Int} {l l' : Loc} (h : b (upd l i (.int x)) = some (.brk l')) : forG z i b (x :: r) l = some (.next l') := by
  show (b (upd l i (.int x))).bind _ = _
  rw [h]; rfl
noncomputable def zsF (near wide : Int) (ending : Nat) : List Int := if ending = 0 then [near, wide, 0, 5] else if ending = 1 then [near, wide, 127, 5] else [near, wide]
noncomputable def valsF (near wide : Int) (ending : Nat) : List Int := if ending = 0 then [near, wide, wide, wide] else [near, wide]
noncomputable def zF (ending : Nat) : Bool := if ending = 0 then false else true
noncomputable def msF (near wide : Int) (ending : Nat) : List Int := (List.range (if ending = 0 then 4 else 2)).map fun (k : Nat) => near - 4 + wide * (k : Int)
theorem arg_eq {lp : Loc} {near wide : Int} {ending : Nat} (he : ending < 3) (h39 : lp 39 = some (.int near)) (h40 : lp 40 = some (.int wide)) (h35 : lp 35 = some (.int ending)) : dArg lp = some (.list (ivs (zsF near wide ending))) := by
  have e1 : dList (dCons (dVar 39) (dCons (dVar 40) dNil)) lp = some (.list (ivs [near, wide])) := dList_eq (args2 (a := dVar 39) (b := dVar 40) h39 rfl h40 rfl) (Nat.le_trans (Nat.le_refl 2) (by decide))
  unfold dArg
  match ending, he with
  | 0, _ => exact dAddL_eq e1 (dSub_list (xs := [.list (ivs [0, 5]), .list (ivs [127, 5]), .list []]) (b := dVar 35) (k := 0) (v := .list (ivs [0, 5])) rfl h35 (by decide) rfl) (Nat.le_trans (Nat.le_refl 4) (by decide))
  | 1, _ => exact dAddL_eq e1 (dSub_list (xs := [.list (ivs [0, 5]), .list (ivs [127, 5]), .list []]) (b := dVar 35) (k := 1) (v := .list (ivs [127, 5])) rfl h35 (by decide) rfl) (Nat.le_trans (Nat.le_refl 4) (by decide))
  | 2, _ => exact dAddL_eq e1 (dSub_list (xs := [.list (ivs [0, 5]), .list (ivs [127, 5]), .list []]) (b := dVar 35) (k := 2) (v := .list []) rfl h35 (by decide) rfl) (Nat.le_trans (Nat.le_refl 2) (by decide))
theorem gok_all {near wide : Int} (hn : 1 ≤ near ∧ near ≤ 12) (hw : 1 ≤ wide ∧ wide ≤ 12) : ∀ ending, ending < 3 → gok (valOf (valsF near wide ending)) (zF ending) (valsF near wide ending).length none (zsF near wide ending)
  | 0, _ => by
    refine .inr (.inr ⟨by omega, by omega, 3, rfl, rfl, .inr ?_⟩)
    refine .inr (.inr ⟨by omega, by omega, 2, rfl, rfl, .inr ?_⟩)
    refine .inr (.inl ⟨rfl, by decide, rfl, wide, rfl, fun j hj => ?_⟩)
    match j, hj with
    | 0, _ => rfl
    | 1, _ => rfl
  | 1, _ => by
    refine .inr (.inr ⟨by omega, by omega, 1, rfl, rfl, .inr ?_⟩)
    refine .inr (.inr ⟨by omega, by omega, 0, rfl, rfl, .inr ?_⟩)
    exact .inl ⟨rfl, rfl⟩
  | 2, _ => by
    refine .inr (.inr ⟨by omega, by omega, 1, rfl, rfl, .inr ?_⟩)
    refine .inr (.inr ⟨by omega, by omega, 0, rfl, rfl, .inr ?_⟩)
    exact (rfl : (0 : Nat) = 0)
theorem marks_all {near wide : Int} (ending : Nat) (he : ending < 3) (l : Loc) (h14 : l 14 = some (.own (ivs []))) (h15 : l 15 = some (.int (-4))) :
    ∃ lf, forG (zF ending) 16 den32_2 (valsF near wide ending) l = some (.next lf) ∧ den32_3 lf = some (.ret (.list (ivs (msF near wide ending)))) := by
  have step : ∀ (l : Loc) (acc : List Int) (pl x : Int), l 14 = some (.own (ivs acc)) → l 15 = some (.int pl) → acc.length + 1 < 4 → ∃ l', den32_2 (upd l 16 (.int x)) = some (.next l') ∧ l' 14 = some (.own (ivs (acc ++ [pl + x]))) ∧ l' 15 = some (.int (pl + x)) := fun l acc pl x a b c =>
    body32_next (by rw [upd_ne _ _ (by decide)]; exact a) (by rw [upd_ne _ _ (by decide)]; exact b) (upd_self _ _ _) c
  obtain ⟨l1, e1, a14, a15⟩ := step l [] (-4) near h14 h15 (by decide)
  obtain ⟨l2, e2, b14, b15⟩ := step l1 _ _ wide a14 a15 (by simp)
  have fin : ∀ (lf : Loc) (ms : List Int), lf 14 = some (.own (ivs ms)) → den32_3 lf = some (.ret (.list (ivs ms))) := fun lf ms h => by
    show (dVar 14 lf).map _ = _
    rw [show dVar 14 lf = lf 14 from rfl, h]; rfl
  by_cases h0 : ending = 0
  · subst h0
    obtain ⟨l3, e3, c14, c15⟩ := step l2 _ _ wide b14 b15 (by simp)
    obtain ⟨l4, e4, d14⟩ := body32_brk (l := upd l3 16 (.int wide)) (by rw [upd_ne _ _ (by decide)]; exact c14) (by rw [upd_ne _ _ (by decide)]; exact c15) (upd_self _ _ _) rfl
    refine ⟨l4, ?_, ?_⟩
    · show forG false 16 den32_2 [near, wide, wide, wide] l = _
      rw [forG_next e1, forG_next e2, forG_next e3, forG_brk e4]
    · rw [fin l4 _ d14]
      congr 3
      show ivs [_, _, _, _] = ivs [_, _, _, _]
      congr 1
      simp only [List.cons.injEq, and_true]
      refine ⟨?_, ?_, ?_, ?_⟩ <;> push_cast <;> omega
  · refine ⟨l2, ?_, ?_⟩
    · unfold zF valsF
      rw [if_neg h0, if_neg h0, forG_next e1, forG_next e2]; rfl
    · rw [fin l2 _ b14]
      unfold msF
      rw [if_neg h0]
      congr 3
      show ivs [_, _] = ivs [_, _]
      congr 1
      simp only [List.cons.injEq, and_true]
      refine ⟨?_, ?_⟩ <;> push_cast <;> omega
end Mine
end
section
open PySem PySem.W PyProof.Rows
namespace Mine
section
variable {prog : Program} {w : World} {G : Gl} {n : Nat} {adr : Nat → Addr} {ob : Nat → Obj} {fd : Nat → FuncData}
theorem fmod_range (x : Int) {k : Int} (h : 0 < k) : 0 ≤ x.fmod k ∧ x.fmod k < k := ⟨Int.fmod_nonneg_of_pos x h, Int.fmod_lt_of_pos x h⟩
theorem msF_range {near wide : Int} (hn : 1 ≤ near ∧ near ≤ 12) (hw : 1 ≤ wide ∧ wide ≤ 12) (ending : Nat) : ∀ mk ∈ msF near wide ending, -3 ≤ mk ∧ mk ≤ 100 := fun mk hmk => by
  unfold msF at hmk
  obtain ⟨k, hk, rfl⟩ := List.mem_map.mp hmk
  have hk := List.mem_range.mp hk
  have hk4 : k < 4 := Nat.lt_of_lt_of_le hk (by split <;> omega)
  clear hk hmk
  match k, hk4 with
  | 0, _ => push_cast; omega
  | 1, _ => push_cast; omega
  | 2, _ => push_cast; omega
  | 3, _ => push_cast; omega
theorem law_true (L : Laid prog w G adr ob fd inSets) {A : Around} {P : Addr → Prop} {s : Shared} {Q : Value → Shared → Prop} {E : Value → Shared → Prop} {items : List Int} {sv : Value} (hl : items.length ≤ 63) (hA : AOk (n + 4) A) (B : Base G s.heap) (fr : ∀ a, s.heap.get? a = none → P a)
    (r : VR s.heap P none (.list (ivs items)) sv)
    (hQ : ∀ h' tk gs, gs.bare = true → Kp s.heap h' → Q (.bool true) { s with heap := h', toks := tk, gens := s.gens.push gs }) : wpAny (model prog w) A (call (.ref (adr 38)) [sv]) Q E s := by
  obtain ⟨n0, n1, n2, n3, n4, n5, n6, hN⟩ : ∃ n0 n1 n2 n3 n4 n5 n6, numbersF items = [n0, n1, n2, n3, n4, n5, n6] := ⟨_, _, _, _, _, _, _, rfl⟩
  obtain ⟨r1, r2⟩ := fmod_range n0 (k := 6) (by decide)
  obtain ⟨kind, hk⟩ : ∃ kind : Nat, n0.fmod 6 = kind := ⟨(n0.fmod 6).toNat, by omega⟩
  obtain ⟨r3, r4⟩ := fmod_range (n0.fdiv 6) (k := 3) (by decide)
  obtain ⟨ending, he⟩ : ∃ ending : Nat, (n0.fdiv 6).fmod 3 = ending := ⟨((n0.fdiv 6).fmod 3).toNat, by omega⟩
  have hk6 : kind < 6 := by omega
  have he3 : ending < 3 := by omega
  have hln := lenF_range hk6
  have hp : ∀ x : Int, -3 ≤ x.fmod ((lenF kind : Int) + 6) - 3 ∧ x.fmod ((lenF kind : Int) + 6) - 3 < (lenF kind : Int) + 3 := fun x => by
    have := fmod_range x (k := (lenF kind : Int) + 6) (by omega)
    omega
  have hnear : 1 ≤ n6.fmod 12 + 1 ∧ n6.fmod 12 + 1 ≤ 12 := by
    have := fmod_range n6 (k := 12) (by decide)
    omega
  have hwide : 1 ≤ (n6.fdiv 12).fmod 12 + 1 ∧ (n6.fdiv 12).fmod 12 + 1 ≤ 12 := by
    have := fmod_range (n6.fdiv 12) (k := 12) (by decide)
    omega
  have hdep : 0 < (n5.fdiv 100).fmod 9 + 1 ∧ (n5.fdiv 100).fmod 9 + 1 ≤ 9 := by
    have := fmod_range (n5.fdiv 100) (k := 9) (by decide)
    omega
  have q1 := hp n1
  have q2 := hp n2
  have q3 := hp n3
  have q4 := hp n4
  have q5 := hp n5
  obtain ⟨p0, hp0⟩ : ∃ p, n1.fmod ((lenF kind : Int) + 6) - 3 = p := ⟨_, rfl⟩
  obtain ⟨p1, hp1⟩ : ∃ p, n2.fmod ((lenF kind : Int) + 6) - 3 = p := ⟨_, rfl⟩
  obtain ⟨p2, hp2⟩ : ∃ p, n3.fmod ((lenF kind : Int) + 6) - 3 = p := ⟨_, rfl⟩
  obtain ⟨p3, hp3⟩ : ∃ p, n4.fmod ((lenF kind : Int) + 6) - 3 = p := ⟨_, rfl⟩
  obtain ⟨p4, hp4⟩ : ∃ p, n5.fmod ((lenF kind : Int) + 6) - 3 = p := ⟨_, rfl⟩
  rw [hp0] at q1
  rw [hp1] at q2
  rw [hp2] at q3
  rw [hp3] at q4
  rw [hp4] at q5
  obtain ⟨lp, e1, h9, h35, h21, h36, h38, h12, h30, h39, h40⟩ := pre_go items hl n0 n1 n2 n3 n4 n5 n6 hN kind ending hk hk6 he p0 p1 p2 p3 p4 (by rw [← hp0, ← hp1, ← hp2, ← hp3, ← hp4]; rfl) (fun p hp => by
    simp only [List.mem_cons, List.not_mem_nil, or_false] at hp
    rcases hp with rfl | rfl | rfl | rfl | rfl <;> omega) _ _ _ rfl rfl rfl hdep
  have harg := arg_eq he3 h39 h40 h35
  generalize n6.fmod 12 + 1 = near at hnear h39 harg
  generalize (n6.fdiv 12).fmod 12 + 1 = wide at hwide h40 harg
  generalize (n5.fdiv 100).fmod 9 + 1 = dep at hdep h30
  generalize hsz : ivs (zsF near wide ending) = sizes at harg
  have m14 : upd (upd (bindP [13] [.list sizes] l0) 100 .none) 14 (.own (ivs [])) 14 = some (.own (ivs [])) := rfl
  have h0 : den32_0 (bindP [13] [.list sizes] l0) = some (.next (upd (upd (bindP [13] [.list sizes] l0) 100 .none) 14 (.own (ivs [])))) := rfl
  have h1 : den32_1 (upd (upd (bindP [13] [.list sizes] l0) 100 .none) 14 (.own (ivs []))) = some (.next (upd (upd (upd (bindP [13] [.list sizes] l0) 100 .none) 14 (.own (ivs []))) 15 (.int (-4)))) := rfl
  obtain ⟨lf, e2, e3⟩ := marks_all (near := near) (wide := wide) ending he3 (upd (upd (upd (bindP [13] [.list sizes] l0) 100 .none) 14 (.own (ivs []))) 15 (.int (-4))) rfl rfl
  have hms := msF_range hnear hwide ending
  refine law_call (n := n) L hA B fr r e1 harg (zs := zsF near wide ending) (by rw [← hsz]; exact intsV_ivs _) (gok_all hnear hwide ending he3) h0 h1 rfl rfl e2 e3
    (post_go (ps := [p0, p1, p2, p3]) (m := p4) (kind := kind) (ending := ending) (near := near) (wide := wide) (ms := msF near wide ending) (d := dep) ⟨hk6, he3, rfl, ?_, hdep.1, rfl, hms, by omega⟩ ⟨?_, ?_, ?_, ?_, ?_, ?_, ?_, ?_, ?_, ?_⟩) fun h' tk gs v' hb hk hv => ?_
  rotate_left
  · exact h9
  · exact h35
  · exact h21
  · exact h36
  · exact h38
  · exact h12
  · exact h30
  · exact h39
  · exact h40
  · exact upd_self _ _ _
  · have : v' = .bool true := hv
    subst this
    exact hQ h' tk gs hb hk
  · intro p hp
    simp only [List.mem_cons, List.not_mem_nil, or_false] at hp
    rcases hp with rfl | rfl | rfl | rfl <;> assumption
end
end Mine
end
section
open PySem PySem.W PyProof.Rows
namespace Mine
theorem twin_made : (PySem.Challenge.pw_xg0016_01.main.futureAnnotations == false) = true := by k_qdec
noncomputable abbrev tp : Program := PySem.W.Fast.tw18189966014867261368
theorem tp_eq : PySem.Challenge.pw_xg0016_01 = tp := PySem.W.Fast.te18189966014867261368
noncomputable abbrev tGo := @PySem.W.Fast.tw10295753902157049106
noncomputable abbrev tRun := @PySem.W.Fast.tw10110043849684766642
noncomputable abbrev tTab := @PySem.W.Fast.tw14364793385576792824
noncomputable abbrev tExecs := @PySem.W.Fast.tw12563942051412417395
theorem tGo_eq : @segGoT = @tGo := PySem.W.Fast.te10295753902157049106
theorem tRun_eq : @segRunT = @tRun := PySem.W.Fast.te10110043849684766642
theorem tTab_eq : treeTable = tTab := PySem.W.Fast.te14364793385576792824
theorem tExecs_eq : @execs = @tExecs := PySem.W.Fast.te12563942051412417395
noncomputable abbrev cs (l : List Nat) : PySem.Str := ⟨⟨l⟩⟩
noncomputable def en (P : Params) (x : PySem.Str) (t : Nat) (v : PySem.Value) : DictEntry := ⟨PyData.keyHash P x, .str x t, v⟩
noncomputable def stT (k : Nat) : Stmt := (tp.main.body[k]?).getD (.Pass default)
noncomputable def nmT (k : Nat) : PySem.Str := match stT k with
  | .FunctionDef x _ _ _ _ _ _ _ _ _ => x
  | _ => ⟨#[]⟩
noncomputable def boT (k : Nat) : List Stmt := match stT k with
  | .FunctionDef _ _ b _ _ _ _ _ _ _ => b
  | _ => []
noncomputable def arT (k : Nat) : Arguments := match stT k with
  | .FunctionDef _ a _ _ _ _ _ _ _ _ => a
  | _ => default
noncomputable def scT (k : Nat) : Scope := match stT k with
  | .FunctionDef _ _ _ _ _ _ s _ _ _ => s
  | _ => default
noncomputable def fnO (k : Nat) (g : Addr) (d kd doc pm : PySem.Value) (an : Option Addr) (c ct : PySem.Value) (b : Addr) : FuncData := ⟨nmT k, nmT k, arT k, .stmts (boT k), scT k, g, [], d, kd, doc, pm, an, c, ct, b⟩
noncomputable def envT : Env := { scope := tp.main.scope, locals := mainNs, globals := mainNs, cells := [], code := .ref 13, frame := some 14 }
noncomputable abbrev cdT : Code := .body (behindTheImports tp) envT
noncomputable abbrev p00 : Pos := ⟨0, 0, 0, 0⟩
noncomputable abbrev annT : Option PySem.Value := some (.ref 6)
noncomputable def sgT (i n : Nat) : List Stmt := (tp.main.body.drop i).take n
noncomputable abbrev thT (sts : List Stmt) (pos : Pos) : Thread := ⟨(tExecs sts envT).wrap doneF deadEnd id id, cdT, pos, [topFrame p00]⟩
noncomputable abbrev bLife : Life := {}
noncomputable abbrev nd := BT.node
noncomputable abbrev lf (o : Obj) : BT := .node o .nil .nil
noncomputable abbrev sv (a : Int) (t : Nat) : Int × PySem.Value := (a, .int a t)
end Mine
end
section
open PySem PySem.W PyProof.Rows
section
namespace Mine
noncomputable def ent3 (P : Params) : List DictEntry := [en P (cs [95, 95, 100, 111, 99, 95, 95]) 166 .none, en P (cs [95, 95, 112, 97, 99, 107, 97, 103, 101, 95, 95]) 167 .none, en P (cs [95, 95, 108, 111, 97, 100, 101, 114, 95, 95]) 168 (.builtin "__main__.__loader__#opaque"), en P (cs [95, 95, 115, 112, 101, 99, 95, 95]) 169 .none, en P (cs [95, 95, 97, 110, 110, 111, 116, 97, 116, 105, 111, 110, 115, 95, 95]) 170 (.ref 6), en P (cs [95, 95, 98, 117, 105, 108, 116, 105, 110, 115, 95, 95]) 171 (.ref 4), en P (cs [95, 95, 102, 105, 108, 101, 95, 95]) 173 (.str (cs [47, 99, 108, 97, 105, 109, 47, 99, 117, 116, 46, 112, 121]) 172), en P (cs [95, 95, 99, 97, 99, 104, 101, 100, 95, 95]) 174 .none, en P (cs [108, 116]) 196 (.ref 21), en P (cs [110, 101]) 204 (.ref 28), en P (cs [103, 116]) 212 (.ref 35), en P (cs [110, 111, 116, 95]) 219 (.ref 42), en P (cs [110, 101, 103]) 226 (.ref 49), en P (cs [115, 117, 98]) 234 (.ref 56), en P (cs [99, 111, 110, 116, 97, 105, 110, 115]) 242 (.ref 63), en P (cs [99, 111, 117, 110, 116, 79, 102]) 252 (.ref 70), en P (cs [105, 97, 100, 100]) 260 (.ref 77), en P (cs [105, 109, 117, 108]) 268 (.ref 84), en P (cs [105, 115, 117, 98]) 276 (.ref 91), en P (cs [95, 115, 116, 114, 99, 111, 108, 108]) 286 (.ref 98), en P (cs [67, 72, 65, 82, 95, 77, 65, 88]) 288 (.int 127 287), en P (cs [95, 103, 114, 111, 117, 112, 105, 110, 103, 95, 105, 110, 116, 101, 114, 118, 97, 108, 115]) 297 (.ref 105), en P (cs [98, 49, 95, 115, 101, 116]) 359 (.ref 113), en P (cs [105, 110, 95, 116, 97, 98, 108, 101, 95, 98, 49]) 366 (.ref 123), en P (cs [105, 110, 95, 116, 97, 98, 108, 101, 95, 99, 52]) 374 (.ref 130), en P (cs [99, 54, 95, 115, 101, 116]) 388 (.ref 132), en P (cs [105, 110, 95, 116, 97, 98, 108, 101, 95, 99, 54]) 395 (.ref 142), en P (cs [99, 55, 95, 115, 101, 116]) 423 (.ref 144), en P (cs [105, 110, 95, 116, 97, 98, 108, 101, 95, 99, 55]) 430 (.ref 154), en P (cs [99, 56, 95, 115, 101, 116]) 471 (.ref 168), en P (cs [105, 110, 95, 116, 97, 98, 108, 101, 95, 99, 56]) 478 (.ref 178), en P (cs [99, 57, 95, 115, 101, 116]) 678 (.ref 186), en P (cs [105, 110, 95, 116, 97, 98, 108, 101, 95, 99, 57]) 685 (.ref 196), en P (cs [95, 108, 97, 119, 95, 110, 117, 109, 98, 101, 114, 115]) 693 (.ref 201), en P (cs [95, 108, 97, 119, 95, 104, 111, 108, 100, 115]) 701 (.ref 208), en P (cs [95, 108, 97, 119, 95, 117, 110, 108, 105, 107, 101]) 710 (.ref 215), en P (cs [95, 108, 97, 119, 95, 109, 97, 114, 107, 115]) 720 (.ref 222), en P (cs [95, 108, 97, 119, 95, 116, 105, 109, 101, 115]) 731 (.ref 229), en P (cs [95, 108, 97, 119, 95, 112, 114, 111, 100, 117, 99, 116]) 743 (.ref 236), en P (cs [95, 108, 97, 119, 95, 114, 101, 115, 116]) 749 (.ref 241), en P (cs [95, 108, 97, 119, 95, 99, 104, 97, 105, 110]) 755 (.ref 246), en P (cs [95, 108, 97, 119, 95, 99, 104, 97, 110, 103, 101, 115]) 761 (.ref 251), en P (cs [108, 97, 119]) 767 (.ref 256)]
noncomputable def fld12 : List PySem.Value := [(.int 2 0), (.int 0 0), (.ref 20), (.int 4 0), (.int 0 0), (.ref 27), (.int 6 0), (.int 0 0), (.ref 34), (.int 8 0), (.int 0 0), (.ref 41), (.int 10 0), (.int 0 0), (.ref 48), (.int 12 0), (.int 0 0), (.ref 55), (.int 14 0), (.int 0 0), (.ref 62), (.int 16 0), (.int 0 0), (.ref 69), (.int 22 0), (.int 0 0), (.ref 76), (.int 25 0), (.int 0 0), (.ref 83), (.int 28 0), (.int 0 0), (.ref 90), (.int 32 0), (.int 0 0), (.ref 97), (.int 35 0), (.int 0 0), (.ref 104), (.int 49 0), (.int 0 0), (.ref 122), (.int 51 0), (.int 0 0), (.ref 129), (.int 59 0), (.int 0 0), (.ref 141), (.int 62 0), (.int 0 0), (.ref 153), (.int 65 0), (.int 0 0), (.ref 177), (.int 68 0), (.int 0 0), (.ref 195), (.int 71 0), (.int 0 0), (.ref 200), (.int 74 0), (.int 0 0), (.ref 207), (.int 86 0), (.int 0 0), (.ref 214), (.int 92 0), (.int 0 0), (.ref 221), (.int 101 0), (.int 0 0), (.ref 228), (.int 107 0), (.int 0 0), (.ref 235), (.int 112 0), (.int 0 0), (.ref 240), (.int 122 0), (.int 0 0), (.ref 245), (.int 130 0), (.int 0 0), (.ref 250), (.int 139 0), (.int 0 0), (.ref 255)]
noncomputable def ob11a : Obj := ⟨(.type "tuple"), none, (.seq [].toArray 0), [].toArray⟩
noncomputable def ob12a : Obj := ⟨.none, none, (.fields (fld12.take 0).toArray), [].toArray⟩
noncomputable def ob13a : Obj := ⟨(.type "code"), none, (.fields [(.str (cs [60, 109, 111, 100, 117, 108, 101, 62]) 182), (.str (cs [60, 109, 111, 100, 117, 108, 101, 62]) 183), (.str (cs [47, 99, 108, 97, 105, 109, 47, 99, 117, 116, 46, 112, 121]) 184), (.int 1 0), (.int 0 0), (.int 0 0), (.int 0 0), (.int 0 0), (.ref 11), (.bool false), (.int 181 0), (.ref 12), .none, .none, .none, .none, (.int 185 0), (.int 1 0), (.str (cs [47, 99, 108, 97, 105, 109, 47, 99, 117, 116, 46, 112, 121]) 186)].toArray), [].toArray⟩
noncomputable def ob14a : Obj := ⟨(.type "frame"), none, .plain, [some (.ref 13), some (.ref 3), some (.ref 3), none, some (.str (cs [95, 95, 109, 97, 105, 110, 95, 95]) 164), none, some (.ref 0)].toArray⟩
noncomputable def tra (P : Params) : BT := (nd (boot_o_0 P) (nd (boot_o_1 P) (nd (boot_o_3 P) (lf (boot_o_7 P)) (lf ob11a)) (nd (boot_o_5 P) (lf (boot_o_9 P)) (lf ob13a))) (nd (boot_o_2 P) (nd (boot_o_4 P) (lf (boot_o_8 P)) (lf ob12a)) (nd (boot_o_6 P) (lf (boot_o_10 P)) (lf ob14a))))
noncomputable def sha (w : World) (os : OsState) : SharedT := ⟨tra w.params, 15, bLife, .mk [], boot_drawn, 187, os⟩
noncomputable def ob3b (P : Params) : Obj := ⟨(.type "dict"), none, (.dict (en P (cs [95, 95, 110, 97, 109, 101, 95, 95]) 165 (.str (cs [99, 112, 121, 51, 49, 51, 46, 108, 111, 99, 97, 108, 101]) 277) :: (ent3 P).take 19).toArray 20), [].toArray⟩
noncomputable def ob12b : Obj := ⟨.none, none, (.fields (fld12.take 33).toArray), [].toArray⟩
noncomputable def ob15b : Obj := ⟨(.type "tuple"), none, (.seq [].toArray 0), [].toArray⟩
noncomputable def ob16b : Obj := ⟨.none, none, (.fields [].toArray), [].toArray⟩
noncomputable def ob17b : Obj := ⟨(.type "tuple"), none, (.seq [(.str (cs [97]) 192), (.str (cs [98]) 193)].toArray 0), [].toArray⟩
noncomputable def ob18b : Obj := ⟨(.type "tuple"), none, (.seq [].toArray 0), [].toArray⟩
noncomputable def ob19b : Obj := ⟨.none, none, (.func (fnO 1 0 .none .none .none .none none .none .none 0)), [].toArray⟩
noncomputable def ob20b : Obj := ⟨(.type "code"), none, (.fields [(.str (cs [108, 116]) 189), (.str (cs [108, 116]) 190), (.str (cs [47, 99, 108, 97, 105, 109, 47, 99, 117, 116, 46, 112, 121]) 191), (.int 2 0), (.int 2 0), (.int 0 0), (.int 0 0), (.int 3 0), (.ref 15), (.bool true), (.int 181 0), (.ref 16), .none, (.ref 17), (.ref 18), (.ref 19), (.int 194 0), (.int 2 0), (.str (cs [47, 99, 108, 97, 105, 109, 47, 99, 117, 116, 46, 112, 121]) 195)].toArray), [].toArray⟩
noncomputable def ob21b : Obj := ⟨(.type "function"), none, (.func (fnO 1 3 .none .none .none (.str (cs [99, 112, 121, 51, 49, 51, 46, 111, 112, 101, 114, 97, 116, 111, 114]) 187) none (.ref 20) .none 0)), [].toArray⟩
noncomputable def ob22b : Obj := ⟨(.type "tuple"), none, (.seq [].toArray 0), [].toArray⟩
noncomputable def ob23b : Obj := ⟨.none, none, (.fields [].toArray), [].toArray⟩
noncomputable def ob24b : Obj := ⟨(.type "tuple"), none, (.seq [(.str (cs [97]) 200), (.str (cs [98]) 201)].toArray 0), [].toArray⟩
noncomputable def ob25b : Obj := ⟨(.type "tuple"), none, (.seq [].toArray 0), [].toArray⟩
noncomputable def ob26b : Obj := ⟨.none, none, (.func (fnO 2 0 .none .none .none .none none .none .none 0)), [].toArray⟩
noncomputable def ob27b : Obj := ⟨(.type "code"), none, (.fields [(.str (cs [110, 101]) 197), (.str (cs [110, 101]) 198), (.str (cs [47, 99, 108, 97, 105, 109, 47, 99, 117, 116, 46, 112, 121]) 199), (.int 4 0), (.int 2 0), (.int 0 0), (.int 0 0), (.int 3 0), (.ref 22), (.bool true), (.int 181 0), (.ref 23), .none, (.ref 24), (.ref 25), (.ref 26), (.int 202 0), (.int 4 0), (.str (cs [47, 99, 108, 97, 105, 109, 47, 99, 117, 116, 46, 112, 121]) 203)].toArray), [].toArray⟩
noncomputable def ob28b : Obj := ⟨(.type "function"), none, (.func (fnO 2 3 .none .none .none (.str (cs [99, 112, 121, 51, 49, 51, 46, 111, 112, 101, 114, 97, 116, 111, 114]) 187) none (.ref 27) .none 0)), [].toArray⟩
noncomputable def ob29b : Obj := ⟨(.type "tuple"), none, (.seq [].toArray 0), [].toArray⟩
noncomputable def ob30b : Obj := ⟨.none, none, (.fields [].toArray), [].toArray⟩
noncomputable def ob31b : Obj := ⟨(.type "tuple"), none, (.seq [(.str (cs [97]) 208), (.str (cs [98]) 209)].toArray 0), [].toArray⟩
noncomputable def ob32b : Obj := ⟨(.type "tuple"), none, (.seq [].toArray 0), [].toArray⟩
noncomputable def ob33b : Obj := ⟨.none, none, (.func (fnO 3 0 .none .none .none .none none .none .none 0)), [].toArray⟩
noncomputable def ob34b : Obj := ⟨(.type "code"), none, (.fields [(.str (cs [103, 116]) 205), (.str (cs [103, 116]) 206), (.str (cs [47, 99, 108, 97, 105, 109, 47, 99, 117, 116, 46, 112, 121]) 207), (.int 6 0), (.int 2 0), (.int 0 0), (.int 0 0), (.int 3 0), (.ref 29), (.bool true), (.int 181 0), (.ref 30), .none, (.ref 31), (.ref 32), (.ref 33), (.int 210 0), (.int 6 0), (.str (cs [47, 99, 108, 97, 105, 109, 47, 99, 117, 116, 46, 112, 121]) 211)].toArray), [].toArray⟩
noncomputable def ob35b : Obj := ⟨(.type "function"), none, (.func (fnO 3 3 .none .none .none (.str (cs [99, 112, 121, 51, 49, 51, 46, 111, 112, 101, 114, 97, 116, 111, 114]) 187) none (.ref 34) .none 0)), [].toArray⟩
noncomputable def ob36b : Obj := ⟨(.type "tuple"), none, (.seq [].toArray 0), [].toArray⟩
noncomputable def ob37b : Obj := ⟨.none, none, (.fields [].toArray), [].toArray⟩
noncomputable def ob38b : Obj := ⟨(.type "tuple"), none, (.seq [(.str (cs [97]) 216)].toArray 0), [].toArray⟩
noncomputable def ob39b : Obj := ⟨(.type "tuple"), none, (.seq [].toArray 0), [].toArray⟩
noncomputable def ob40b : Obj := ⟨.none, none, (.func (fnO 4 0 .none .none .none .none none .none .none 0)), [].toArray⟩
noncomputable def ob41b : Obj := ⟨(.type "code"), none, (.fields [(.str (cs [110, 111, 116, 95]) 213), (.str (cs [110, 111, 116, 95]) 214), (.str (cs [47, 99, 108, 97, 105, 109, 47, 99, 117, 116, 46, 112, 121]) 215), (.int 8 0), (.int 1 0), (.int 0 0), (.int 0 0), (.int 3 0), (.ref 36), (.bool true), (.int 181 0), (.ref 37), .none, (.ref 38), (.ref 39), (.ref 40), (.int 217 0), (.int 8 0), (.str (cs [47, 99, 108, 97, 105, 109, 47, 99, 117, 116, 46, 112, 121]) 218)].toArray), [].toArray⟩
noncomputable def ob42b : Obj := ⟨(.type "function"), none, (.func (fnO 4 3 .none .none .none (.str (cs [99, 112, 121, 51, 49, 51, 46, 111, 112, 101, 114, 97, 116, 111, 114]) 187) none (.ref 41) .none 0)), [].toArray⟩
noncomputable def ob43b : Obj := ⟨(.type "tuple"), none, (.seq [].toArray 0), [].toArray⟩
noncomputable def ob44b : Obj := ⟨.none, none, (.fields [].toArray), [].toArray⟩
noncomputable def ob45b : Obj := ⟨(.type "tuple"), none, (.seq [(.str (cs [97]) 223)].toArray 0), [].toArray⟩
noncomputable def ob46b : Obj := ⟨(.type "tuple"), none, (.seq [].toArray 0), [].toArray⟩
noncomputable def ob47b : Obj := ⟨.none, none, (.func (fnO 5 0 .none .none .none .none none .none .none 0)), [].toArray⟩
noncomputable def ob48b : Obj := ⟨(.type "code"), none, (.fields [(.str (cs [110, 101, 103]) 220), (.str (cs [110, 101, 103]) 221), (.str (cs [47, 99, 108, 97, 105, 109, 47, 99, 117, 116, 46, 112, 121]) 222), (.int 10 0), (.int 1 0), (.int 0 0), (.int 0 0), (.int 3 0), (.ref 43), (.bool true), (.int 181 0), (.ref 44), .none, (.ref 45), (.ref 46), (.ref 47), (.int 224 0), (.int 10 0), (.str (cs [47, 99, 108, 97, 105, 109, 47, 99, 117, 116, 46, 112, 121]) 225)].toArray), [].toArray⟩
noncomputable def ob49b : Obj := ⟨(.type "function"), none, (.func (fnO 5 3 .none .none .none (.str (cs [99, 112, 121, 51, 49, 51, 46, 111, 112, 101, 114, 97, 116, 111, 114]) 187) none (.ref 48) .none 0)), [].toArray⟩
noncomputable def ob50b : Obj := ⟨(.type "tuple"), none, (.seq [].toArray 0), [].toArray⟩
noncomputable def ob51b : Obj := ⟨.none, none, (.fields [].toArray), [].toArray⟩
noncomputable def ob52b : Obj := ⟨(.type "tuple"), none, (.seq [(.str (cs [97]) 230), (.str (cs [98]) 231)].toArray 0), [].toArray⟩
noncomputable def ob53b : Obj := ⟨(.type "tuple"), none, (.seq [].toArray 0), [].toArray⟩
noncomputable def ob54b : Obj := ⟨.none, none, (.func (fnO 6 0 .none .none .none .none none .none .none 0)), [].toArray⟩
noncomputable def ob55b : Obj := ⟨(.type "code"), none, (.fields [(.str (cs [115, 117, 98]) 227), (.str (cs [115, 117, 98]) 228), (.str (cs [47, 99, 108, 97, 105, 109, 47, 99, 117, 116, 46, 112, 121]) 229), (.int 12 0), (.int 2 0), (.int 0 0), (.int 0 0), (.int 3 0), (.ref 50), (.bool true), (.int 181 0), (.ref 51), .none, (.ref 52), (.ref 53), (.ref 54), (.int 232 0), (.int 12 0), (.str (cs [47, 99, 108, 97, 105, 109, 47, 99, 117, 116, 46, 112, 121]) 233)].toArray), [].toArray⟩
noncomputable def ob56b : Obj := ⟨(.type "function"), none, (.func (fnO 6 3 .none .none .none (.str (cs [99, 112, 121, 51, 49, 51, 46, 111, 112, 101, 114, 97, 116, 111, 114]) 187) none (.ref 55) .none 0)), [].toArray⟩
noncomputable def ob57b : Obj := ⟨(.type "tuple"), none, (.seq [].toArray 0), [].toArray⟩
noncomputable def ob58b : Obj := ⟨.none, none, (.fields [].toArray), [].toArray⟩
noncomputable def ob59b : Obj := ⟨(.type "tuple"), none, (.seq [(.str (cs [97]) 238), (.str (cs [98]) 239)].toArray 0), [].toArray⟩
noncomputable def ob60b : Obj := ⟨(.type "tuple"), none, (.seq [].toArray 0), [].toArray⟩
noncomputable def ob61b : Obj := ⟨.none, none, (.func (fnO 7 0 .none .none .none .none none .none .none 0)), [].toArray⟩
noncomputable def ob62b : Obj := ⟨(.type "code"), none, (.fields [(.str (cs [99, 111, 110, 116, 97, 105, 110, 115]) 235), (.str (cs [99, 111, 110, 116, 97, 105, 110, 115]) 236), (.str (cs [47, 99, 108, 97, 105, 109, 47, 99, 117, 116, 46, 112, 121]) 237), (.int 14 0), (.int 2 0), (.int 0 0), (.int 0 0), (.int 3 0), (.ref 57), (.bool true), (.int 181 0), (.ref 58), .none, (.ref 59), (.ref 60), (.ref 61), (.int 240 0), (.int 14 0), (.str (cs [47, 99, 108, 97, 105, 109, 47, 99, 117, 116, 46, 112, 121]) 241)].toArray), [].toArray⟩
noncomputable def ob63b : Obj := ⟨(.type "function"), none, (.func (fnO 7 3 .none .none .none (.str (cs [99, 112, 121, 51, 49, 51, 46, 111, 112, 101, 114, 97, 116, 111, 114]) 187) none (.ref 62) .none 0)), [].toArray⟩
noncomputable def ob64b : Obj := ⟨(.type "tuple"), none, (.seq [].toArray 0), [].toArray⟩
noncomputable def ob65b : Obj := ⟨.none, none, (.fields [].toArray), [].toArray⟩
noncomputable def ob66b : Obj := ⟨(.type "tuple"), none, (.seq [(.str (cs [97]) 246), (.str (cs [98]) 247), (.str (cs [99, 111, 117, 110, 116]) 248), (.str (cs [105]) 249)].toArray 0), [].toArray⟩
noncomputable def ob67b : Obj := ⟨(.type "tuple"), none, (.seq [].toArray 0), [].toArray⟩
noncomputable def ob68b : Obj := ⟨.none, none, (.func (fnO 8 0 .none .none .none .none none .none .none 0)), [].toArray⟩
noncomputable def ob69b : Obj := ⟨(.type "code"), none, (.fields [(.str (cs [99, 111, 117, 110, 116, 79, 102]) 243), (.str (cs [99, 111, 117, 110, 116, 79, 102]) 244), (.str (cs [47, 99, 108, 97, 105, 109, 47, 99, 117, 116, 46, 112, 121]) 245), (.int 16 0), (.int 2 0), (.int 0 0), (.int 0 0), (.int 3 0), (.ref 64), (.bool true), (.int 181 0), (.ref 65), .none, (.ref 66), (.ref 67), (.ref 68), (.int 250 0), (.int 16 0), (.str (cs [47, 99, 108, 97, 105, 109, 47, 99, 117, 116, 46, 112, 121]) 251)].toArray), [].toArray⟩
noncomputable def ob70b : Obj := ⟨(.type "function"), none, (.func (fnO 8 3 .none .none .none (.str (cs [99, 112, 121, 51, 49, 51, 46, 111, 112, 101, 114, 97, 116, 111, 114]) 187) none (.ref 69) .none 0)), [].toArray⟩
noncomputable def ob71b : Obj := ⟨(.type "tuple"), none, (.seq [].toArray 0), [].toArray⟩
noncomputable def ob72b : Obj := ⟨.none, none, (.fields [].toArray), [].toArray⟩
noncomputable def ob73b : Obj := ⟨(.type "tuple"), none, (.seq [(.str (cs [97]) 256), (.str (cs [98]) 257)].toArray 0), [].toArray⟩
noncomputable def ob74b : Obj := ⟨(.type "tuple"), none, (.seq [].toArray 0), [].toArray⟩
noncomputable def ob75b : Obj := ⟨.none, none, (.func (fnO 9 0 .none .none .none .none none .none .none 0)), [].toArray⟩
noncomputable def ob76b : Obj := ⟨(.type "code"), none, (.fields [(.str (cs [105, 97, 100, 100]) 253), (.str (cs [105, 97, 100, 100]) 254), (.str (cs [47, 99, 108, 97, 105, 109, 47, 99, 117, 116, 46, 112, 121]) 255), (.int 22 0), (.int 2 0), (.int 0 0), (.int 0 0), (.int 3 0), (.ref 71), (.bool true), (.int 181 0), (.ref 72), .none, (.ref 73), (.ref 74), (.ref 75), (.int 258 0), (.int 22 0), (.str (cs [47, 99, 108, 97, 105, 109, 47, 99, 117, 116, 46, 112, 121]) 259)].toArray), [].toArray⟩
noncomputable def ob77b : Obj := ⟨(.type "function"), none, (.func (fnO 9 3 .none .none .none (.str (cs [99, 112, 121, 51, 49, 51, 46, 111, 112, 101, 114, 97, 116, 111, 114]) 187) none (.ref 76) .none 0)), [].toArray⟩
noncomputable def ob78b : Obj := ⟨(.type "tuple"), none, (.seq [].toArray 0), [].toArray⟩
noncomputable def ob79b : Obj := ⟨.none, none, (.fields [].toArray), [].toArray⟩
noncomputable def ob80b : Obj := ⟨(.type "tuple"), none, (.seq [(.str (cs [97]) 264), (.str (cs [98]) 265)].toArray 0), [].toArray⟩
noncomputable def ob81b : Obj := ⟨(.type "tuple"), none, (.seq [].toArray 0), [].toArray⟩
noncomputable def ob82b : Obj := ⟨.none, none, (.func (fnO 10 0 .none .none .none .none none .none .none 0)), [].toArray⟩
noncomputable def ob83b : Obj := ⟨(.type "code"), none, (.fields [(.str (cs [105, 109, 117, 108]) 261), (.str (cs [105, 109, 117, 108]) 262), (.str (cs [47, 99, 108, 97, 105, 109, 47, 99, 117, 116, 46, 112, 121]) 263), (.int 25 0), (.int 2 0), (.int 0 0), (.int 0 0), (.int 3 0), (.ref 78), (.bool true), (.int 181 0), (.ref 79), .none, (.ref 80), (.ref 81), (.ref 82), (.int 266 0), (.int 25 0), (.str (cs [47, 99, 108, 97, 105, 109, 47, 99, 117, 116, 46, 112, 121]) 267)].toArray), [].toArray⟩
noncomputable def ob84b : Obj := ⟨(.type "function"), none, (.func (fnO 10 3 .none .none .none (.str (cs [99, 112, 121, 51, 49, 51, 46, 111, 112, 101, 114, 97, 116, 111, 114]) 187) none (.ref 83) .none 0)), [].toArray⟩
noncomputable def ob85b : Obj := ⟨(.type "tuple"), none, (.seq [].toArray 0), [].toArray⟩
noncomputable def ob86b : Obj := ⟨.none, none, (.fields [].toArray), [].toArray⟩
noncomputable def ob87b : Obj := ⟨(.type "tuple"), none, (.seq [(.str (cs [97]) 272), (.str (cs [98]) 273)].toArray 0), [].toArray⟩
noncomputable def ob88b : Obj := ⟨(.type "tuple"), none, (.seq [].toArray 0), [].toArray⟩
noncomputable def ob89b : Obj := ⟨.none, none, (.func (fnO 11 0 .none .none .none .none none .none .none 0)), [].toArray⟩
noncomputable def ob90b : Obj := ⟨(.type "code"), none, (.fields [(.str (cs [105, 115, 117, 98]) 269), (.str (cs [105, 115, 117, 98]) 270), (.str (cs [47, 99, 108, 97, 105, 109, 47, 99, 117, 116, 46, 112, 121]) 271), (.int 28 0), (.int 2 0), (.int 0 0), (.int 0 0), (.int 3 0), (.ref 85), (.bool true), (.int 181 0), (.ref 86), .none, (.ref 87), (.ref 88), (.ref 89), (.int 274 0), (.int 28 0), (.str (cs [47, 99, 108, 97, 105, 109, 47, 99, 117, 116, 46, 112, 121]) 275)].toArray), [].toArray⟩
noncomputable def ob91b : Obj := ⟨(.type "function"), none, (.func (fnO 11 3 .none .none .none (.str (cs [99, 112, 121, 51, 49, 51, 46, 111, 112, 101, 114, 97, 116, 111, 114]) 187) none (.ref 90) .none 0)), [].toArray⟩
noncomputable def trb (P : Params) : BT := (nd (boot_o_0 P) (nd (boot_o_1 P) (nd (ob3b P) (nd (boot_o_7 P) (nd ob15b (nd ob31b (lf ob63b) .nil) (nd ob47b (lf ob79b) .nil)) (nd ob23b (nd ob39b (lf ob71b) .nil) (nd ob55b (lf ob87b) .nil))) (nd ob11a (nd ob19b (nd ob35b (lf ob67b) .nil) (nd ob51b (lf ob83b) .nil)) (nd ob27b (nd ob43b (lf ob75b) .nil) (nd ob59b (lf ob91b) .nil)))) (nd (boot_o_5 P) (nd (boot_o_9 P) (nd ob17b (nd ob33b (lf ob65b) .nil) (nd ob49b (lf ob81b) .nil)) (nd ob25b (nd ob41b (lf ob73b) .nil) (nd ob57b (lf ob89b) .nil))) (nd ob13a (nd ob21b (nd ob37b (lf ob69b) .nil) (nd ob53b (lf ob85b) .nil)) (nd ob29b (nd ob45b (lf ob77b) .nil) (lf ob61b))))) (nd (boot_o_2 P) (nd (boot_o_4 P) (nd (boot_o_8 P) (nd ob16b (nd ob32b (lf ob64b) .nil) (nd ob48b (lf ob80b) .nil)) (nd ob24b (nd ob40b (lf ob72b) .nil) (nd ob56b (lf ob88b) .nil))) (nd ob12b (nd ob20b (nd ob36b (lf ob68b) .nil) (nd ob52b (lf ob84b) .nil)) (nd ob28b (nd ob44b (lf ob76b) .nil) (lf ob60b)))) (nd (boot_o_6 P) (nd (boot_o_10 P) (nd ob18b (nd ob34b (lf ob66b) .nil) (nd ob50b (lf ob82b) .nil)) (nd ob26b (nd ob42b (lf ob74b) .nil) (nd ob58b (lf ob90b) .nil))) (nd ob14a (nd ob22b (nd ob38b (lf ob70b) .nil) (nd ob54b (lf ob86b) .nil)) (nd ob30b (nd ob46b (lf ob78b) .nil) (lf ob62b))))))
noncomputable def shb (w : World) (os : OsState) : SharedT := ⟨trb w.params, 92, bLife, .mk [], boot_drawn, 279, os⟩
noncomputable def ob3c (P : Params) : Obj := ⟨(.type "dict"), none, (.dict (en P (cs [95, 95, 110, 97, 109, 101, 95, 95]) 165 (.str (cs [99, 112, 121, 51, 49, 51, 46, 115, 116, 114, 105, 110, 103, 112, 114, 101, 112]) 298) :: (ent3 P).take 22).toArray 23), [].toArray⟩
noncomputable def ob12c : Obj := ⟨.none, none, (.fields (fld12.take 39).toArray), [].toArray⟩
noncomputable def ob92c : Obj := ⟨(.type "tuple"), none, (.seq [].toArray 0), [].toArray⟩
noncomputable def ob93c : Obj := ⟨.none, none, (.fields [].toArray), [].toArray⟩
noncomputable def ob94c : Obj := ⟨(.type "tuple"), none, (.seq [(.str (cs [97]) 282), (.str (cs [98]) 283)].toArray 0), [].toArray⟩
noncomputable def ob95c : Obj := ⟨(.type "tuple"), none, (.seq [].toArray 0), [].toArray⟩
noncomputable def ob96c : Obj := ⟨.none, none, (.func (fnO 13 0 .none .none .none .none none .none .none 0)), [].toArray⟩
noncomputable def ob97c : Obj := ⟨(.type "code"), none, (.fields [(.str (cs [95, 115, 116, 114, 99, 111, 108, 108]) 279), (.str (cs [95, 115, 116, 114, 99, 111, 108, 108]) 280), (.str (cs [47, 99, 108, 97, 105, 109, 47, 99, 117, 116, 46, 112, 121]) 281), (.int 32 0), (.int 2 0), (.int 0 0), (.int 0 0), (.int 3 0), (.ref 92), (.bool true), (.int 181 0), (.ref 93), .none, (.ref 94), (.ref 95), (.ref 96), (.int 284 0), (.int 32 0), (.str (cs [47, 99, 108, 97, 105, 109, 47, 99, 117, 116, 46, 112, 121]) 285)].toArray), [].toArray⟩
noncomputable def ob98c : Obj := ⟨(.type "function"), none, (.func (fnO 13 3 .none .none .none (.str (cs [99, 112, 121, 51, 49, 51, 46, 108, 111, 99, 97, 108, 101]) 277) none (.ref 97) .none 0)), [].toArray⟩
noncomputable def ob99c : Obj := ⟨(.type "tuple"), none, (.seq [].toArray 0), [].toArray⟩
noncomputable def ob100c : Obj := ⟨.none, none, (.fields [].toArray), [].toArray⟩
noncomputable def ob101c : Obj := ⟨(.type "tuple"), none, (.seq [(.str (cs [103, 114, 111, 117, 112, 105, 110, 103]) 292), (.str (cs [108, 97, 115, 116, 95, 105, 110, 116, 101, 114, 118, 97, 108]) 293), (.str (cs [105, 110, 116, 101, 114, 118, 97, 108]) 294)].toArray 0), [].toArray⟩
noncomputable def ob102c : Obj := ⟨(.type "tuple"), none, (.seq [].toArray 0), [].toArray⟩
noncomputable def ob103c : Obj := ⟨.none, none, (.func (fnO 15 0 .none .none .none .none none .none .none 0)), [].toArray⟩
noncomputable def ob104c : Obj := ⟨(.type "code"), none, (.fields [(.str (cs [95, 103, 114, 111, 117, 112, 105, 110, 103, 95, 105, 110, 116, 101, 114, 118, 97, 108, 115]) 289), (.str (cs [95, 103, 114, 111, 117, 112, 105, 110, 103, 95, 105, 110, 116, 101, 114, 118, 97, 108, 115]) 290), (.str (cs [47, 99, 108, 97, 105, 109, 47, 99, 117, 116, 46, 112, 121]) 291), (.int 35 0), (.int 1 0), (.int 0 0), (.int 0 0), (.int 35 0), (.ref 99), (.bool true), (.int 181 0), (.ref 100), .none, (.ref 101), (.ref 102), (.ref 103), (.int 295 0), (.int 35 0), (.str (cs [47, 99, 108, 97, 105, 109, 47, 99, 117, 116, 46, 112, 121]) 296)].toArray), [].toArray⟩
noncomputable def ob105c : Obj := ⟨(.type "function"), none, (.func (fnO 15 3 .none .none .none (.str (cs [99, 112, 121, 51, 49, 51, 46, 108, 111, 99, 97, 108, 101]) 277) none (.ref 104) .none 0)), [].toArray⟩
noncomputable def trc (P : Params) : BT := (nd (boot_o_0 P) (nd (boot_o_1 P) (nd (ob3c P) (nd (boot_o_7 P) (nd ob15b (nd ob31b (lf ob63b) (lf ob95c)) (nd ob47b (lf ob79b) .nil)) (nd ob23b (nd ob39b (lf ob71b) (lf ob103c)) (nd ob55b (lf ob87b) .nil))) (nd ob11a (nd ob19b (nd ob35b (lf ob67b) (lf ob99c)) (nd ob51b (lf ob83b) .nil)) (nd ob27b (nd ob43b (lf ob75b) .nil) (nd ob59b (lf ob91b) .nil)))) (nd (boot_o_5 P) (nd (boot_o_9 P) (nd ob17b (nd ob33b (lf ob65b) (lf ob97c)) (nd ob49b (lf ob81b) .nil)) (nd ob25b (nd ob41b (lf ob73b) (lf ob105c)) (nd ob57b (lf ob89b) .nil))) (nd ob13a (nd ob21b (nd ob37b (lf ob69b) (lf ob101c)) (nd ob53b (lf ob85b) .nil)) (nd ob29b (nd ob45b (lf ob77b) .nil) (nd ob61b (lf ob93c) .nil))))) (nd (boot_o_2 P) (nd (boot_o_4 P) (nd (boot_o_8 P) (nd ob16b (nd ob32b (lf ob64b) (lf ob96c)) (nd ob48b (lf ob80b) .nil)) (nd ob24b (nd ob40b (lf ob72b) (lf ob104c)) (nd ob56b (lf ob88b) .nil))) (nd ob12c (nd ob20b (nd ob36b (lf ob68b) (lf ob100c)) (nd ob52b (lf ob84b) .nil)) (nd ob28b (nd ob44b (lf ob76b) .nil) (nd ob60b (lf ob92c) .nil)))) (nd (boot_o_6 P) (nd (boot_o_10 P) (nd ob18b (nd ob34b (lf ob66b) (lf ob98c)) (nd ob50b (lf ob82b) .nil)) (nd ob26b (nd ob42b (lf ob74b) .nil) (nd ob58b (lf ob90b) .nil))) (nd ob14a (nd ob22b (nd ob38b (lf ob70b) (lf ob102c)) (nd ob54b (lf ob86b) .nil)) (nd ob30b (nd ob46b (lf ob78b) .nil) (nd ob62b (lf ob94c) .nil))))))
noncomputable def shc (w : World) (os : OsState) : SharedT := ⟨trc w.params, 106, bLife, .mk [], boot_drawn, 300, os⟩
noncomputable def ob3d (P : Params) : Obj := ⟨(.type "dict"), none, (.dict (en P (cs [95, 95, 110, 97, 109, 101, 95, 95]) 165 (.str (cs [99, 112, 121, 51, 49, 51, 46, 115, 116, 114, 105, 110, 103, 112, 114, 101, 112]) 298) :: (ent3 P).take 23).toArray 24), [].toArray⟩
noncomputable def ob106d : Obj := ⟨(.type "list"), none, (.seq [(.int 173 300), (.int 847 301), (.int 6150 302), (.int 6155 303), (.int 6156 304), (.int 6157 305), (.int 8203 306), (.int 8204 307), (.int 8205 308), (.int 8288 309), (.int 65279 310)].toArray 0), [].toArray⟩
noncomputable def ob107d : Obj := ⟨(.type "range"), none, (.fields [(.int 65024 311), (.int 65040 312), (.int 1 313)].toArray), [].toArray⟩
noncomputable def ob108d : Obj := ⟨(.type "list"), none, (.seq [(.int 65024 316), (.int 65025 317), (.int 65026 318), (.int 65027 319), (.int 65028 320), (.int 65029 321), (.int 65030 322), (.int 65031 323), (.int 65032 324), (.int 65033 325), (.int 65034 326), (.int 65035 327), (.int 65036 328), (.int 65037 329), (.int 65038 330), (.int 65039 331)].toArray 18), [].toArray⟩
noncomputable def ob109d : Obj := ⟨(.type "range_iterator"), none, (.fields [(.int 65040 0), (.int 0 0), (.int 1 0)].toArray), [].toArray⟩
noncomputable def ob110d : Obj := ⟨(.type "tuple"), none, (.seq [].toArray 0), [].toArray⟩
noncomputable def ob111d : Obj := ⟨(.type "StopIteration"), none, (.fields [(.ref 110), .none, .none, .none, (.bool false), .none].toArray), [].toArray⟩
noncomputable def ob112d : Obj := ⟨(.type "list"), none, (.seq [(.int 173 300), (.int 847 301), (.int 6150 302), (.int 6155 303), (.int 6156 304), (.int 6157 305), (.int 8203 306), (.int 8204 307), (.int 8205 308), (.int 8288 309), (.int 65279 310), (.int 65024 316), (.int 65025 317), (.int 65026 318), (.int 65027 319), (.int 65028 320), (.int 65029 321), (.int 65030 322), (.int 65031 323), (.int 65032 324), (.int 65033 325), (.int 65034 326), (.int 65035 327), (.int 65036 328), (.int 65037 329), (.int 65038 330), (.int 65039 331)].toArray 0), [].toArray⟩
noncomputable def ob113d (P : Params) : Obj := ⟨(.type "set"), none, (.set [sv 65024 316, sv 65025 317, sv 65026 318, sv 65027 319, sv 65028 320, sv 65029 321, sv 6150 302, sv 65030 322, sv 65031 323, sv 65032 324, sv 65033 325, sv 6155 303, sv 6156 304, sv 6157 305, sv 8203 306, sv 8204 307, sv 8205 308, sv 65034 326, sv 65035 327, sv 65036 328, sv 65037 329, sv 65038 330, sv 65039 331, sv 173 300, sv 847 301, sv 8288 309, sv 65279 310].toArray 29 ⟨127, [0, 1, 2, 3, 4, 5, 6, 7, 8, 9, 10, 11, 12, 13, 14, 15, 16, 17, 18, 19, 20, 21, 22, 45, 79, 96, 127].toArray, [].toArray, 0, !P.followText "set-order", 2, true⟩), [].toArray⟩
noncomputable def ob114d : Obj := ⟨(.type "list_iterator"), none, (.fields [.none, (.int 27 0)].toArray), [].toArray⟩
noncomputable def ob115d : Obj := ⟨(.type "tuple"), none, (.seq [].toArray 0), [].toArray⟩
noncomputable def ob116d : Obj := ⟨(.type "StopIteration"), none, (.fields [(.ref 115), .none, .none, .none, (.bool false), .none].toArray), [].toArray⟩
noncomputable def trd (P : Params) : BT := (nd (boot_o_0 P) (nd (boot_o_1 P) (nd (ob3d P) (nd (boot_o_7 P) (nd ob15b (nd ob31b (lf ob63b) (lf ob95c)) (nd ob47b (lf ob79b) (lf ob111d))) (nd ob23b (nd ob39b (lf ob71b) (lf ob103c)) (nd ob55b (lf ob87b) .nil))) (nd ob11a (nd ob19b (nd ob35b (lf ob67b) (lf ob99c)) (nd ob51b (lf ob83b) (lf ob115d))) (nd ob27b (nd ob43b (lf ob75b) (lf ob107d)) (nd ob59b (lf ob91b) .nil)))) (nd (boot_o_5 P) (nd (boot_o_9 P) (nd ob17b (nd ob33b (lf ob65b) (lf ob97c)) (nd ob49b (lf ob81b) (lf (ob113d P)))) (nd ob25b (nd ob41b (lf ob73b) (lf ob105c)) (nd ob57b (lf ob89b) .nil))) (nd ob13a (nd ob21b (nd ob37b (lf ob69b) (lf ob101c)) (nd ob53b (lf ob85b) .nil)) (nd ob29b (nd ob45b (lf ob77b) (lf ob109d)) (nd ob61b (lf ob93c) .nil))))) (nd (boot_o_2 P) (nd (boot_o_4 P) (nd (boot_o_8 P) (nd ob16b (nd ob32b (lf ob64b) (lf ob96c)) (nd ob48b (lf ob80b) (lf ob112d))) (nd ob24b (nd ob40b (lf ob72b) (lf ob104c)) (nd ob56b (lf ob88b) .nil))) (nd ob12c (nd ob20b (nd ob36b (lf ob68b) (lf ob100c)) (nd ob52b (lf ob84b) (lf ob116d))) (nd ob28b (nd ob44b (lf ob76b) (lf ob108d)) (nd ob60b (lf ob92c) .nil)))) (nd (boot_o_6 P) (nd (boot_o_10 P) (nd ob18b (nd ob34b (lf ob66b) (lf ob98c)) (nd ob50b (lf ob82b) (lf ob114d))) (nd ob26b (nd ob42b (lf ob74b) (lf ob106d)) (nd ob58b (lf ob90b) .nil))) (nd ob14a (nd ob22b (nd ob38b (lf ob70b) (lf ob102c)) (nd ob54b (lf ob86b) .nil)) (nd ob30b (nd ob46b (lf ob78b) (lf ob110d)) (nd ob62b (lf ob94c) .nil))))))
noncomputable def shd (w : World) (os : OsState) : SharedT := ⟨trd w.params, 117, bLife, .mk [], boot_drawn, 360, os⟩
noncomputable def ob3e (P : Params) : Obj := ⟨(.type "dict"), none, (.dict (en P (cs [95, 95, 110, 97, 109, 101, 95, 95]) 165 (.str (cs [99, 112, 121, 51, 49, 51, 46, 115, 116, 114, 105, 110, 103, 112, 114, 101, 112]) 298) :: (ent3 P).take 25).toArray 26), [].toArray⟩
noncomputable def ob12e : Obj := ⟨.none, none, (.fields (fld12.take 45).toArray), [].toArray⟩
noncomputable def ob117e : Obj := ⟨(.type "tuple"), none, (.seq [].toArray 0), [].toArray⟩
noncomputable def ob118e : Obj := ⟨.none, none, (.fields [].toArray), [].toArray⟩
noncomputable def ob119e : Obj := ⟨(.type "tuple"), none, (.seq [(.str (cs [99, 111, 100, 101]) 363)].toArray 0), [].toArray⟩
noncomputable def ob120e : Obj := ⟨(.type "tuple"), none, (.seq [].toArray 0), [].toArray⟩
noncomputable def ob121e : Obj := ⟨.none, none, (.func (fnO 18 0 .none .none .none .none none .none .none 0)), [].toArray⟩
noncomputable def ob122e : Obj := ⟨(.type "code"), none, (.fields [(.str (cs [105, 110, 95, 116, 97, 98, 108, 101, 95, 98, 49]) 360), (.str (cs [105, 110, 95, 116, 97, 98, 108, 101, 95, 98, 49]) 361), (.str (cs [47, 99, 108, 97, 105, 109, 47, 99, 117, 116, 46, 112, 121]) 362), (.int 49 0), (.int 1 0), (.int 0 0), (.int 0 0), (.int 3 0), (.ref 117), (.bool true), (.int 181 0), (.ref 118), .none, (.ref 119), (.ref 120), (.ref 121), (.int 364 0), (.int 49 0), (.str (cs [47, 99, 108, 97, 105, 109, 47, 99, 117, 116, 46, 112, 121]) 365)].toArray), [].toArray⟩
noncomputable def ob123e : Obj := ⟨(.type "function"), none, (.func (fnO 18 3 .none .none .none (.str (cs [99, 112, 121, 51, 49, 51, 46, 115, 116, 114, 105, 110, 103, 112, 114, 101, 112]) 298) none (.ref 122) .none 0)), [].toArray⟩
noncomputable def ob124e : Obj := ⟨(.type "tuple"), none, (.seq [].toArray 0), [].toArray⟩
noncomputable def ob125e : Obj := ⟨.none, none, (.fields [].toArray), [].toArray⟩
noncomputable def ob126e : Obj := ⟨(.type "tuple"), none, (.seq [(.str (cs [99, 111, 100, 101]) 370), (.str (cs [99]) 371)].toArray 0), [].toArray⟩
noncomputable def ob127e : Obj := ⟨(.type "tuple"), none, (.seq [].toArray 0), [].toArray⟩
noncomputable def ob128e : Obj := ⟨.none, none, (.func (fnO 19 0 .none .none .none .none none .none .none 0)), [].toArray⟩
noncomputable def ob129e : Obj := ⟨(.type "code"), none, (.fields [(.str (cs [105, 110, 95, 116, 97, 98, 108, 101, 95, 99, 52]) 367), (.str (cs [105, 110, 95, 116, 97, 98, 108, 101, 95, 99, 52]) 368), (.str (cs [47, 99, 108, 97, 105, 109, 47, 99, 117, 116, 46, 112, 121]) 369), (.int 51 0), (.int 1 0), (.int 0 0), (.int 0 0), (.int 3 0), (.ref 124), (.bool true), (.int 181 0), (.ref 125), .none, (.ref 126), (.ref 127), (.ref 128), (.int 372 0), (.int 51 0), (.str (cs [47, 99, 108, 97, 105, 109, 47, 99, 117, 116, 46, 112, 121]) 373)].toArray), [].toArray⟩
noncomputable def ob130e : Obj := ⟨(.type "function"), none, (.func (fnO 19 3 .none .none .none (.str (cs [99, 112, 121, 51, 49, 51, 46, 115, 116, 114, 105, 110, 103, 112, 114, 101, 112]) 298) none (.ref 129) .none 0)), [].toArray⟩
noncomputable def tre (P : Params) : BT := (nd (boot_o_0 P) (nd (boot_o_1 P) (nd (ob3e P) (nd (boot_o_7 P) (nd ob15b (nd ob31b (nd ob63b (lf ob127e) .nil) (lf ob95c)) (nd ob47b (lf ob79b) (lf ob111d))) (nd ob23b (nd ob39b (lf ob71b) (lf ob103c)) (nd ob55b (lf ob87b) (lf ob119e)))) (nd ob11a (nd ob19b (nd ob35b (lf ob67b) (lf ob99c)) (nd ob51b (lf ob83b) (lf ob115d))) (nd ob27b (nd ob43b (lf ob75b) (lf ob107d)) (nd ob59b (lf ob91b) (lf ob123e))))) (nd (boot_o_5 P) (nd (boot_o_9 P) (nd ob17b (nd ob33b (nd ob65b (lf ob129e) .nil) (lf ob97c)) (nd ob49b (lf ob81b) (lf (ob113d P)))) (nd ob25b (nd ob41b (lf ob73b) (lf ob105c)) (nd ob57b (lf ob89b) (lf ob121e)))) (nd ob13a (nd ob21b (nd ob37b (lf ob69b) (lf ob101c)) (nd ob53b (lf ob85b) (lf ob117e))) (nd ob29b (nd ob45b (lf ob77b) (lf ob109d)) (nd ob61b (lf ob93c) (lf ob125e)))))) (nd (boot_o_2 P) (nd (boot_o_4 P) (nd (boot_o_8 P) (nd ob16b (nd ob32b (nd ob64b (lf ob128e) .nil) (lf ob96c)) (nd ob48b (lf ob80b) (lf ob112d))) (nd ob24b (nd ob40b (lf ob72b) (lf ob104c)) (nd ob56b (lf ob88b) (lf ob120e)))) (nd ob12e (nd ob20b (nd ob36b (lf ob68b) (lf ob100c)) (nd ob52b (lf ob84b) (lf ob116d))) (nd ob28b (nd ob44b (lf ob76b) (lf ob108d)) (nd ob60b (lf ob92c) (lf ob124e))))) (nd (boot_o_6 P) (nd (boot_o_10 P) (nd ob18b (nd ob34b (nd ob66b (lf ob130e) .nil) (lf ob98c)) (nd ob50b (lf ob82b) (lf ob114d))) (nd ob26b (nd ob42b (lf ob74b) (lf ob106d)) (nd ob58b (lf ob90b) (lf ob122e)))) (nd ob14a (nd ob22b (nd ob38b (lf ob70b) (lf ob102c)) (nd ob54b (lf ob86b) (lf ob118e))) (nd ob30b (nd ob46b (lf ob78b) (lf ob110d)) (nd ob62b (lf ob94c) (lf ob126e)))))))
noncomputable def she (w : World) (os : OsState) : SharedT := ⟨tre w.params, 131, bLife, .mk [], boot_drawn, 375, os⟩
noncomputable def ob3f (P : Params) : Obj := ⟨(.type "dict"), none, (.dict (en P (cs [95, 95, 110, 97, 109, 101, 95, 95]) 165 (.str (cs [99, 112, 121, 51, 49, 51, 46, 115, 116, 114, 105, 110, 103, 112, 114, 101, 112]) 298) :: (ent3 P).take 26).toArray 27), [].toArray⟩
noncomputable def ob131f : Obj := ⟨(.type "range"), none, (.fields [(.int 65529 375), (.int 65534 376), (.int 1 377)].toArray), [].toArray⟩
noncomputable def ob132f (P : Params) : Obj := ⟨(.type "set"), none, (.set [sv 65529 378, sv 65530 380, sv 65531 382, sv 65532 384, sv 65533 386].toArray 6 ⟨31, [25, 26, 27, 28, 29].toArray, [].toArray, 0, !P.followText "set-order", 1, true⟩), [].toArray⟩
noncomputable def ob133f : Obj := ⟨(.type "range_iterator"), none, (.fields [(.int 65534 0), (.int 0 0), (.int 1 0)].toArray), [].toArray⟩
noncomputable def ob134f : Obj := ⟨(.type "tuple"), none, (.seq [].toArray 0), [].toArray⟩
noncomputable def ob135f : Obj := ⟨(.type "StopIteration"), none, (.fields [(.ref 134), .none, .none, .none, (.bool false), .none].toArray), [].toArray⟩
noncomputable def trf (P : Params) : BT := (nd (boot_o_0 P) (nd (boot_o_1 P) (nd (ob3f P) (nd (boot_o_7 P) (nd ob15b (nd ob31b (nd ob63b (lf ob127e) .nil) (lf ob95c)) (nd ob47b (lf ob79b) (lf ob111d))) (nd ob23b (nd ob39b (nd ob71b (lf ob135f) .nil) (lf ob103c)) (nd ob55b (lf ob87b) (lf ob119e)))) (nd ob11a (nd ob19b (nd ob35b (nd ob67b (lf ob131f) .nil) (lf ob99c)) (nd ob51b (lf ob83b) (lf ob115d))) (nd ob27b (nd ob43b (lf ob75b) (lf ob107d)) (nd ob59b (lf ob91b) (lf ob123e))))) (nd (boot_o_5 P) (nd (boot_o_9 P) (nd ob17b (nd ob33b (nd ob65b (lf ob129e) .nil) (lf ob97c)) (nd ob49b (lf ob81b) (lf (ob113d P)))) (nd ob25b (nd ob41b (lf ob73b) (lf ob105c)) (nd ob57b (lf ob89b) (lf ob121e)))) (nd ob13a (nd ob21b (nd ob37b (nd ob69b (lf ob133f) .nil) (lf ob101c)) (nd ob53b (lf ob85b) (lf ob117e))) (nd ob29b (nd ob45b (lf ob77b) (lf ob109d)) (nd ob61b (lf ob93c) (lf ob125e)))))) (nd (boot_o_2 P) (nd (boot_o_4 P) (nd (boot_o_8 P) (nd ob16b (nd ob32b (nd ob64b (lf ob128e) .nil) (lf ob96c)) (nd ob48b (lf ob80b) (lf ob112d))) (nd ob24b (nd ob40b (lf ob72b) (lf ob104c)) (nd ob56b (lf ob88b) (lf ob120e)))) (nd ob12e (nd ob20b (nd ob36b (nd ob68b (lf (ob132f P)) .nil) (lf ob100c)) (nd ob52b (lf ob84b) (lf ob116d))) (nd ob28b (nd ob44b (lf ob76b) (lf ob108d)) (nd ob60b (lf ob92c) (lf ob124e))))) (nd (boot_o_6 P) (nd (boot_o_10 P) (nd ob18b (nd ob34b (nd ob66b (lf ob130e) .nil) (lf ob98c)) (nd ob50b (lf ob82b) (lf ob114d))) (nd ob26b (nd ob42b (lf ob74b) (lf ob106d)) (nd ob58b (lf ob90b) (lf ob122e)))) (nd ob14a (nd ob22b (nd ob38b (nd ob70b (lf ob134f) .nil) (lf ob102c)) (nd ob54b (lf ob86b) (lf ob118e))) (nd ob30b (nd ob46b (lf ob78b) (lf ob110d)) (nd ob62b (lf ob94c) (lf ob126e)))))))
noncomputable def shf (w : World) (os : OsState) : SharedT := ⟨trf w.params, 136, bLife, .mk [], boot_drawn, 389, os⟩
noncomputable def ob3g (P : Params) : Obj := ⟨(.type "dict"), none, (.dict (en P (cs [95, 95, 110, 97, 109, 101, 95, 95]) 165 (.str (cs [99, 112, 121, 51, 49, 51, 46, 115, 116, 114, 105, 110, 103, 112, 114, 101, 112]) 298) :: (ent3 P).take 27).toArray 28), [].toArray⟩
noncomputable def ob12g : Obj := ⟨.none, none, (.fields (fld12.take 48).toArray), [].toArray⟩
noncomputable def ob136g : Obj := ⟨(.type "tuple"), none, (.seq [].toArray 0), [].toArray⟩
noncomputable def ob137g : Obj := ⟨.none, none, (.fields [].toArray), [].toArray⟩
noncomputable def ob138g : Obj := ⟨(.type "tuple"), none, (.seq [(.str (cs [99, 111, 100, 101]) 392)].toArray 0), [].toArray⟩
noncomputable def ob139g : Obj := ⟨(.type "tuple"), none, (.seq [].toArray 0), [].toArray⟩
noncomputable def ob140g : Obj := ⟨.none, none, (.func (fnO 21 0 .none .none .none .none none .none .none 0)), [].toArray⟩
noncomputable def ob141g : Obj := ⟨(.type "code"), none, (.fields [(.str (cs [105, 110, 95, 116, 97, 98, 108, 101, 95, 99, 54]) 389), (.str (cs [105, 110, 95, 116, 97, 98, 108, 101, 95, 99, 54]) 390), (.str (cs [47, 99, 108, 97, 105, 109, 47, 99, 117, 116, 46, 112, 121]) 391), (.int 59 0), (.int 1 0), (.int 0 0), (.int 0 0), (.int 3 0), (.ref 136), (.bool true), (.int 181 0), (.ref 137), .none, (.ref 138), (.ref 139), (.ref 140), (.int 393 0), (.int 59 0), (.str (cs [47, 99, 108, 97, 105, 109, 47, 99, 117, 116, 46, 112, 121]) 394)].toArray), [].toArray⟩
noncomputable def ob142g : Obj := ⟨(.type "function"), none, (.func (fnO 21 3 .none .none .none (.str (cs [99, 112, 121, 51, 49, 51, 46, 115, 116, 114, 105, 110, 103, 112, 114, 101, 112]) 298) none (.ref 141) .none 0)), [].toArray⟩
noncomputable def trg (P : Params) : BT := (nd (boot_o_0 P) (nd (boot_o_1 P) (nd (ob3g P) (nd (boot_o_7 P) (nd ob15b (nd ob31b (nd ob63b (lf ob127e) .nil) (lf ob95c)) (nd ob47b (lf ob79b) (lf ob111d))) (nd ob23b (nd ob39b (nd ob71b (lf ob135f) .nil) (lf ob103c)) (nd ob55b (lf ob87b) (lf ob119e)))) (nd ob11a (nd ob19b (nd ob35b (nd ob67b (lf ob131f) .nil) (lf ob99c)) (nd ob51b (lf ob83b) (lf ob115d))) (nd ob27b (nd ob43b (nd ob75b (lf ob139g) .nil) (lf ob107d)) (nd ob59b (lf ob91b) (lf ob123e))))) (nd (boot_o_5 P) (nd (boot_o_9 P) (nd ob17b (nd ob33b (nd ob65b (lf ob129e) .nil) (lf ob97c)) (nd ob49b (lf ob81b) (lf (ob113d P)))) (nd ob25b (nd ob41b (nd ob73b (lf ob137g) .nil) (lf ob105c)) (nd ob57b (lf ob89b) (lf ob121e)))) (nd ob13a (nd ob21b (nd ob37b (nd ob69b (lf ob133f) .nil) (lf ob101c)) (nd ob53b (lf ob85b) (lf ob117e))) (nd ob29b (nd ob45b (nd ob77b (lf ob141g) .nil) (lf ob109d)) (nd ob61b (lf ob93c) (lf ob125e)))))) (nd (boot_o_2 P) (nd (boot_o_4 P) (nd (boot_o_8 P) (nd ob16b (nd ob32b (nd ob64b (lf ob128e) .nil) (lf ob96c)) (nd ob48b (lf ob80b) (lf ob112d))) (nd ob24b (nd ob40b (nd ob72b (lf ob136g) .nil) (lf ob104c)) (nd ob56b (lf ob88b) (lf ob120e)))) (nd ob12g (nd ob20b (nd ob36b (nd ob68b (lf (ob132f P)) .nil) (lf ob100c)) (nd ob52b (lf ob84b) (lf ob116d))) (nd ob28b (nd ob44b (nd ob76b (lf ob140g) .nil) (lf ob108d)) (nd ob60b (lf ob92c) (lf ob124e))))) (nd (boot_o_6 P) (nd (boot_o_10 P) (nd ob18b (nd ob34b (nd ob66b (lf ob130e) .nil) (lf ob98c)) (nd ob50b (lf ob82b) (lf ob114d))) (nd ob26b (nd ob42b (nd ob74b (lf ob138g) .nil) (lf ob106d)) (nd ob58b (lf ob90b) (lf ob122e)))) (nd ob14a (nd ob22b (nd ob38b (nd ob70b (lf ob134f) .nil) (lf ob102c)) (nd ob54b (lf ob86b) (lf ob118e))) (nd ob30b (nd ob46b (nd ob78b (lf ob142g) .nil) (lf ob110d)) (nd ob62b (lf ob94c) (lf ob126e)))))))
noncomputable def shg (w : World) (os : OsState) : SharedT := ⟨trg w.params, 143, bLife, .mk [], boot_drawn, 396, os⟩
noncomputable def ob3h (P : Params) : Obj := ⟨(.type "dict"), none, (.dict (en P (cs [95, 95, 110, 97, 109, 101, 95, 95]) 165 (.str (cs [99, 112, 121, 51, 49, 51, 46, 115, 116, 114, 105, 110, 103, 112, 114, 101, 112]) 298) :: (ent3 P).take 28).toArray 29), [].toArray⟩
noncomputable def ob143h : Obj := ⟨(.type "range"), none, (.fields [(.int 12272 396), (.int 12284 397), (.int 1 398)].toArray), [].toArray⟩
noncomputable def ob144h (P : Params) : Obj := ⟨(.type "set"), none, (.set [sv 12272 399, sv 12273 401, sv 12274 403, sv 12275 405, sv 12276 407, sv 12277 409, sv 12278 411, sv 12279 413, sv 12280 415, sv 12281 417, sv 12282 419, sv 12283 421].toArray 13 ⟨31, [16, 17, 18, 19, 20, 21, 22, 23, 24, 25, 26, 27].toArray, [].toArray, 0, !P.followText "set-order", 1, true⟩), [].toArray⟩
noncomputable def ob145h : Obj := ⟨(.type "range_iterator"), none, (.fields [(.int 12284 0), (.int 0 0), (.int 1 0)].toArray), [].toArray⟩
noncomputable def ob146h : Obj := ⟨(.type "tuple"), none, (.seq [].toArray 0), [].toArray⟩
noncomputable def ob147h : Obj := ⟨(.type "StopIteration"), none, (.fields [(.ref 146), .none, .none, .none, (.bool false), .none].toArray), [].toArray⟩
noncomputable def trh (P : Params) : BT := (nd (boot_o_0 P) (nd (boot_o_1 P) (nd (ob3h P) (nd (boot_o_7 P) (nd ob15b (nd ob31b (nd ob63b (lf ob127e) .nil) (lf ob95c)) (nd ob47b (nd ob79b (lf ob143h) .nil) (lf ob111d))) (nd ob23b (nd ob39b (nd ob71b (lf ob135f) .nil) (lf ob103c)) (nd ob55b (lf ob87b) (lf ob119e)))) (nd ob11a (nd ob19b (nd ob35b (nd ob67b (lf ob131f) .nil) (lf ob99c)) (nd ob51b (nd ob83b (lf ob147h) .nil) (lf ob115d))) (nd ob27b (nd ob43b (nd ob75b (lf ob139g) .nil) (lf ob107d)) (nd ob59b (lf ob91b) (lf ob123e))))) (nd (boot_o_5 P) (nd (boot_o_9 P) (nd ob17b (nd ob33b (nd ob65b (lf ob129e) .nil) (lf ob97c)) (nd ob49b (nd ob81b (lf ob145h) .nil) (lf (ob113d P)))) (nd ob25b (nd ob41b (nd ob73b (lf ob137g) .nil) (lf ob105c)) (nd ob57b (lf ob89b) (lf ob121e)))) (nd ob13a (nd ob21b (nd ob37b (nd ob69b (lf ob133f) .nil) (lf ob101c)) (nd ob53b (lf ob85b) (lf ob117e))) (nd ob29b (nd ob45b (nd ob77b (lf ob141g) .nil) (lf ob109d)) (nd ob61b (lf ob93c) (lf ob125e)))))) (nd (boot_o_2 P) (nd (boot_o_4 P) (nd (boot_o_8 P) (nd ob16b (nd ob32b (nd ob64b (lf ob128e) .nil) (lf ob96c)) (nd ob48b (nd ob80b (lf (ob144h P)) .nil) (lf ob112d))) (nd ob24b (nd ob40b (nd ob72b (lf ob136g) .nil) (lf ob104c)) (nd ob56b (lf ob88b) (lf ob120e)))) (nd ob12g (nd ob20b (nd ob36b (nd ob68b (lf (ob132f P)) .nil) (lf ob100c)) (nd ob52b (lf ob84b) (lf ob116d))) (nd ob28b (nd ob44b (nd ob76b (lf ob140g) .nil) (lf ob108d)) (nd ob60b (lf ob92c) (lf ob124e))))) (nd (boot_o_6 P) (nd (boot_o_10 P) (nd ob18b (nd ob34b (nd ob66b (lf ob130e) .nil) (lf ob98c)) (nd ob50b (nd ob82b (lf ob146h) .nil) (lf ob114d))) (nd ob26b (nd ob42b (nd ob74b (lf ob138g) .nil) (lf ob106d)) (nd ob58b (lf ob90b) (lf ob122e)))) (nd ob14a (nd ob22b (nd ob38b (nd ob70b (lf ob134f) .nil) (lf ob102c)) (nd ob54b (lf ob86b) (lf ob118e))) (nd ob30b (nd ob46b (nd ob78b (lf ob142g) .nil) (lf ob110d)) (nd ob62b (lf ob94c) (lf ob126e)))))))
noncomputable def shh (w : World) (os : OsState) : SharedT := ⟨trh w.params, 148, bLife, .mk [], boot_drawn, 424, os⟩
noncomputable def ob3i (P : Params) : Obj := ⟨(.type "dict"), none, (.dict (en P (cs [95, 95, 110, 97, 109, 101, 95, 95]) 165 (.str (cs [99, 112, 121, 51, 49, 51, 46, 115, 116, 114, 105, 110, 103, 112, 114, 101, 112]) 298) :: (ent3 P).take 29).toArray 30), [].toArray⟩
noncomputable def ob12i : Obj := ⟨.none, none, (.fields (fld12.take 51).toArray), [].toArray⟩
noncomputable def ob148i : Obj := ⟨(.type "tuple"), none, (.seq [].toArray 0), [].toArray⟩
noncomputable def ob149i : Obj := ⟨.none, none, (.fields [].toArray), [].toArray⟩
noncomputable def ob150i : Obj := ⟨(.type "tuple"), none, (.seq [(.str (cs [99, 111, 100, 101]) 427)].toArray 0), [].toArray⟩
noncomputable def ob151i : Obj := ⟨(.type "tuple"), none, (.seq [].toArray 0), [].toArray⟩
noncomputable def ob152i : Obj := ⟨.none, none, (.func (fnO 23 0 .none .none .none .none none .none .none 0)), [].toArray⟩
noncomputable def ob153i : Obj := ⟨(.type "code"), none, (.fields [(.str (cs [105, 110, 95, 116, 97, 98, 108, 101, 95, 99, 55]) 424), (.str (cs [105, 110, 95, 116, 97, 98, 108, 101, 95, 99, 55]) 425), (.str (cs [47, 99, 108, 97, 105, 109, 47, 99, 117, 116, 46, 112, 121]) 426), (.int 62 0), (.int 1 0), (.int 0 0), (.int 0 0), (.int 3 0), (.ref 148), (.bool true), (.int 181 0), (.ref 149), .none, (.ref 150), (.ref 151), (.ref 152), (.int 428 0), (.int 62 0), (.str (cs [47, 99, 108, 97, 105, 109, 47, 99, 117, 116, 46, 112, 121]) 429)].toArray), [].toArray⟩
noncomputable def ob154i : Obj := ⟨(.type "function"), none, (.func (fnO 23 3 .none .none .none (.str (cs [99, 112, 121, 51, 49, 51, 46, 115, 116, 114, 105, 110, 103, 112, 114, 101, 112]) 298) none (.ref 153) .none 0)), [].toArray⟩
noncomputable def tri (P : Params) : BT := (nd (boot_o_0 P) (nd (boot_o_1 P) (nd (ob3i P) (nd (boot_o_7 P) (nd ob15b (nd ob31b (nd ob63b (lf ob127e) .nil) (lf ob95c)) (nd ob47b (nd ob79b (lf ob143h) .nil) (lf ob111d))) (nd ob23b (nd ob39b (nd ob71b (lf ob135f) .nil) (lf ob103c)) (nd ob55b (nd ob87b (lf ob151i) .nil) (lf ob119e)))) (nd ob11a (nd ob19b (nd ob35b (nd ob67b (lf ob131f) .nil) (lf ob99c)) (nd ob51b (nd ob83b (lf ob147h) .nil) (lf ob115d))) (nd ob27b (nd ob43b (nd ob75b (lf ob139g) .nil) (lf ob107d)) (nd ob59b (lf ob91b) (lf ob123e))))) (nd (boot_o_5 P) (nd (boot_o_9 P) (nd ob17b (nd ob33b (nd ob65b (lf ob129e) .nil) (lf ob97c)) (nd ob49b (nd ob81b (lf ob145h) .nil) (lf (ob113d P)))) (nd ob25b (nd ob41b (nd ob73b (lf ob137g) .nil) (lf ob105c)) (nd ob57b (nd ob89b (lf ob153i) .nil) (lf ob121e)))) (nd ob13a (nd ob21b (nd ob37b (nd ob69b (lf ob133f) .nil) (lf ob101c)) (nd ob53b (nd ob85b (lf ob149i) .nil) (lf ob117e))) (nd ob29b (nd ob45b (nd ob77b (lf ob141g) .nil) (lf ob109d)) (nd ob61b (lf ob93c) (lf ob125e)))))) (nd (boot_o_2 P) (nd (boot_o_4 P) (nd (boot_o_8 P) (nd ob16b (nd ob32b (nd ob64b (lf ob128e) .nil) (lf ob96c)) (nd ob48b (nd ob80b (lf (ob144h P)) .nil) (lf ob112d))) (nd ob24b (nd ob40b (nd ob72b (lf ob136g) .nil) (lf ob104c)) (nd ob56b (nd ob88b (lf ob152i) .nil) (lf ob120e)))) (nd ob12i (nd ob20b (nd ob36b (nd ob68b (lf (ob132f P)) .nil) (lf ob100c)) (nd ob52b (nd ob84b (lf ob148i) .nil) (lf ob116d))) (nd ob28b (nd ob44b (nd ob76b (lf ob140g) .nil) (lf ob108d)) (nd ob60b (lf ob92c) (lf ob124e))))) (nd (boot_o_6 P) (nd (boot_o_10 P) (nd ob18b (nd ob34b (nd ob66b (lf ob130e) .nil) (lf ob98c)) (nd ob50b (nd ob82b (lf ob146h) .nil) (lf ob114d))) (nd ob26b (nd ob42b (nd ob74b (lf ob138g) .nil) (lf ob106d)) (nd ob58b (nd ob90b (lf ob154i) .nil) (lf ob122e)))) (nd ob14a (nd ob22b (nd ob38b (nd ob70b (lf ob134f) .nil) (lf ob102c)) (nd ob54b (nd ob86b (lf ob150i) .nil) (lf ob118e))) (nd ob30b (nd ob46b (nd ob78b (lf ob142g) .nil) (lf ob110d)) (nd ob62b (lf ob94c) (lf ob126e)))))))
noncomputable def shi (w : World) (os : OsState) : SharedT := ⟨tri w.params, 155, bLife, .mk [], boot_drawn, 431, os⟩
noncomputable def ob3j (P : Params) : Obj := ⟨(.type "dict"), none, (.dict (en P (cs [95, 95, 110, 97, 109, 101, 95, 95]) 165 (.str (cs [99, 112, 121, 51, 49, 51, 46, 115, 116, 114, 105, 110, 103, 112, 114, 101, 112]) 298) :: (ent3 P).take 30).toArray 31), [].toArray⟩
noncomputable def ob155j : Obj := ⟨(.type "list"), none, (.seq [(.int 832 431), (.int 833 432), (.int 8206 433), (.int 8207 434)].toArray 0), [].toArray⟩
noncomputable def ob156j : Obj := ⟨(.type "range"), none, (.fields [(.int 8234 435), (.int 8239 436), (.int 1 437)].toArray), [].toArray⟩
noncomputable def ob157j : Obj := ⟨(.type "list"), none, (.seq [(.int 8234 440), (.int 8235 441), (.int 8236 442), (.int 8237 443), (.int 8238 444)].toArray 7), [].toArray⟩
noncomputable def ob158j : Obj := ⟨(.type "range_iterator"), none, (.fields [(.int 8239 0), (.int 0 0), (.int 1 0)].toArray), [].toArray⟩
noncomputable def ob159j : Obj := ⟨(.type "tuple"), none, (.seq [].toArray 0), [].toArray⟩
noncomputable def ob160j : Obj := ⟨(.type "StopIteration"), none, (.fields [(.ref 159), .none, .none, .none, (.bool false), .none].toArray), [].toArray⟩
noncomputable def ob161j : Obj := ⟨(.type "list"), none, (.seq [(.int 832 431), (.int 833 432), (.int 8206 433), (.int 8207 434), (.int 8234 440), (.int 8235 441), (.int 8236 442), (.int 8237 443), (.int 8238 444)].toArray 0), [].toArray⟩
noncomputable def ob162j : Obj := ⟨(.type "range"), none, (.fields [(.int 8298 445), (.int 8304 446), (.int 1 447)].toArray), [].toArray⟩
noncomputable def ob163j : Obj := ⟨(.type "list"), none, (.seq [(.int 8298 450), (.int 8299 451), (.int 8300 452), (.int 8301 453), (.int 8302 454), (.int 8303 455)].toArray 8), [].toArray⟩
noncomputable def ob164j : Obj := ⟨(.type "range_iterator"), none, (.fields [(.int 8304 0), (.int 0 0), (.int 1 0)].toArray), [].toArray⟩
noncomputable def ob165j : Obj := ⟨(.type "tuple"), none, (.seq [].toArray 0), [].toArray⟩
noncomputable def ob166j : Obj := ⟨(.type "StopIteration"), none, (.fields [(.ref 165), .none, .none, .none, (.bool false), .none].toArray), [].toArray⟩
noncomputable def ob167j : Obj := ⟨(.type "list"), none, (.seq [(.int 832 431), (.int 833 432), (.int 8206 433), (.int 8207 434), (.int 8234 440), (.int 8235 441), (.int 8236 442), (.int 8237 443), (.int 8238 444), (.int 8298 450), (.int 8299 451), (.int 8300 452), (.int 8301 453), (.int 8302 454), (.int 8303 455)].toArray 0), [].toArray⟩
noncomputable def ob168j (P : Params) : Obj := ⟨(.type "set"), none, (.set [sv 832 431, sv 833 432, sv 8234 440, sv 8235 441, sv 8236 442, sv 8237 443, sv 8206 433, sv 8207 434, sv 8238 444, sv 8298 450, sv 8299 451, sv 8300 452, sv 8301 453, sv 8302 454, sv 8303 455].toArray 16 ⟨31, [0, 1, 10, 11, 12, 13, 14, 15, 16, 17, 18, 19, 20, 21, 22].toArray, [].toArray, 0, !P.followText "set-order", 1, true⟩), [].toArray⟩
noncomputable def ob169j : Obj := ⟨(.type "list_iterator"), none, (.fields [.none, (.int 15 0)].toArray), [].toArray⟩
noncomputable def ob170j : Obj := ⟨(.type "tuple"), none, (.seq [].toArray 0), [].toArray⟩
noncomputable def ob171j : Obj := ⟨(.type "StopIteration"), none, (.fields [(.ref 170), .none, .none, .none, (.bool false), .none].toArray), [].toArray⟩
noncomputable def trj (P : Params) : BT := (nd (boot_o_0 P) (nd (boot_o_1 P) (nd (ob3j P) (nd (boot_o_7 P) (nd ob15b (nd ob31b (nd ob63b (lf ob127e) .nil) (nd ob95c (lf ob159j) .nil)) (nd ob47b (nd ob79b (lf ob143h) .nil) (lf ob111d))) (nd ob23b (nd ob39b (nd ob71b (lf ob135f) .nil) (nd ob103c (lf ob167j) .nil)) (nd ob55b (nd ob87b (lf ob151i) .nil) (lf ob119e)))) (nd ob11a (nd ob19b (nd ob35b (nd ob67b (lf ob131f) .nil) (nd ob99c (lf ob163j) .nil)) (nd ob51b (nd ob83b (lf ob147h) .nil) (lf ob115d))) (nd ob27b (nd ob43b (nd ob75b (lf ob139g) .nil) (nd ob107d (lf ob171j) .nil)) (nd ob59b (nd ob91b (lf ob155j) .nil) (lf ob123e))))) (nd (boot_o_5 P) (nd (boot_o_9 P) (nd ob17b (nd ob33b (nd ob65b (lf ob129e) .nil) (nd ob97c (lf ob161j) .nil)) (nd ob49b (nd ob81b (lf ob145h) .nil) (lf (ob113d P)))) (nd ob25b (nd ob41b (nd ob73b (lf ob137g) .nil) (nd ob105c (lf ob169j) .nil)) (nd ob57b (nd ob89b (lf ob153i) .nil) (lf ob121e)))) (nd ob13a (nd ob21b (nd ob37b (nd ob69b (lf ob133f) .nil) (nd ob101c (lf ob165j) .nil)) (nd ob53b (nd ob85b (lf ob149i) .nil) (lf ob117e))) (nd ob29b (nd ob45b (nd ob77b (lf ob141g) .nil) (lf ob109d)) (nd ob61b (nd ob93c (lf ob157j) .nil) (lf ob125e)))))) (nd (boot_o_2 P) (nd (boot_o_4 P) (nd (boot_o_8 P) (nd ob16b (nd ob32b (nd ob64b (lf ob128e) .nil) (nd ob96c (lf ob160j) .nil)) (nd ob48b (nd ob80b (lf (ob144h P)) .nil) (lf ob112d))) (nd ob24b (nd ob40b (nd ob72b (lf ob136g) .nil) (nd ob104c (lf (ob168j P)) .nil)) (nd ob56b (nd ob88b (lf ob152i) .nil) (lf ob120e)))) (nd ob12i (nd ob20b (nd ob36b (nd ob68b (lf (ob132f P)) .nil) (nd ob100c (lf ob164j) .nil)) (nd ob52b (nd ob84b (lf ob148i) .nil) (lf ob116d))) (nd ob28b (nd ob44b (nd ob76b (lf ob140g) .nil) (lf ob108d)) (nd ob60b (nd ob92c (lf ob156j) .nil) (lf ob124e))))) (nd (boot_o_6 P) (nd (boot_o_10 P) (nd ob18b (nd ob34b (nd ob66b (lf ob130e) .nil) (nd ob98c (lf ob162j) .nil)) (nd ob50b (nd ob82b (lf ob146h) .nil) (lf ob114d))) (nd ob26b (nd ob42b (nd ob74b (lf ob138g) .nil) (nd ob106d (lf ob170j) .nil)) (nd ob58b (nd ob90b (lf ob154i) .nil) (lf ob122e)))) (nd ob14a (nd ob22b (nd ob38b (nd ob70b (lf ob134f) .nil) (nd ob102c (lf ob166j) .nil)) (nd ob54b (nd ob86b (lf ob150i) .nil) (lf ob118e))) (nd ob30b (nd ob46b (nd ob78b (lf ob142g) .nil) (lf ob110d)) (nd ob62b (nd ob94c (lf ob158j) .nil) (lf ob126e)))))))
noncomputable def shj (w : World) (os : OsState) : SharedT := ⟨trj w.params, 172, bLife, .mk [], boot_drawn, 472, os⟩
noncomputable def ob3k (P : Params) : Obj := ⟨(.type "dict"), none, (.dict (en P (cs [95, 95, 110, 97, 109, 101, 95, 95]) 165 (.str (cs [99, 112, 121, 51, 49, 51, 46, 115, 116, 114, 105, 110, 103, 112, 114, 101, 112]) 298) :: (ent3 P).take 31).toArray 32), [].toArray⟩
noncomputable def ob12k : Obj := ⟨.none, none, (.fields (fld12.take 54).toArray), [].toArray⟩
noncomputable def ob172k : Obj := ⟨(.type "tuple"), none, (.seq [].toArray 0), [].toArray⟩
noncomputable def ob173k : Obj := ⟨.none, none, (.fields [].toArray), [].toArray⟩
noncomputable def ob174k : Obj := ⟨(.type "tuple"), none, (.seq [(.str (cs [99, 111, 100, 101]) 475)].toArray 0), [].toArray⟩
noncomputable def ob175k : Obj := ⟨(.type "tuple"), none, (.seq [].toArray 0), [].toArray⟩
noncomputable def ob176k : Obj := ⟨.none, none, (.func (fnO 25 0 .none .none .none .none none .none .none 0)), [].toArray⟩
noncomputable def ob177k : Obj := ⟨(.type "code"), none, (.fields [(.str (cs [105, 110, 95, 116, 97, 98, 108, 101, 95, 99, 56]) 472), (.str (cs [105, 110, 95, 116, 97, 98, 108, 101, 95, 99, 56]) 473), (.str (cs [47, 99, 108, 97, 105, 109, 47, 99, 117, 116, 46, 112, 121]) 474), (.int 65 0), (.int 1 0), (.int 0 0), (.int 0 0), (.int 3 0), (.ref 172), (.bool true), (.int 181 0), (.ref 173), .none, (.ref 174), (.ref 175), (.ref 176), (.int 476 0), (.int 65 0), (.str (cs [47, 99, 108, 97, 105, 109, 47, 99, 117, 116, 46, 112, 121]) 477)].toArray), [].toArray⟩
noncomputable def ob178k : Obj := ⟨(.type "function"), none, (.func (fnO 25 3 .none .none .none (.str (cs [99, 112, 121, 51, 49, 51, 46, 115, 116, 114, 105, 110, 103, 112, 114, 101, 112]) 298) none (.ref 177) .none 0)), [].toArray⟩
noncomputable def trk (P : Params) : BT := (nd (boot_o_0 P) (nd (boot_o_1 P) (nd (ob3k P) (nd (boot_o_7 P) (nd ob15b (nd ob31b (nd ob63b (lf ob127e) .nil) (nd ob95c (lf ob159j) .nil)) (nd ob47b (nd ob79b (lf ob143h) .nil) (nd ob111d (lf ob175k) .nil))) (nd ob23b (nd ob39b (nd ob71b (lf ob135f) .nil) (nd ob103c (lf ob167j) .nil)) (nd ob55b (nd ob87b (lf ob151i) .nil) (lf ob119e)))) (nd ob11a (nd ob19b (nd ob35b (nd ob67b (lf ob131f) .nil) (nd ob99c (lf ob163j) .nil)) (nd ob51b (nd ob83b (lf ob147h) .nil) (lf ob115d))) (nd ob27b (nd ob43b (nd ob75b (lf ob139g) .nil) (nd ob107d (lf ob171j) .nil)) (nd ob59b (nd ob91b (lf ob155j) .nil) (lf ob123e))))) (nd (boot_o_5 P) (nd (boot_o_9 P) (nd ob17b (nd ob33b (nd ob65b (lf ob129e) .nil) (nd ob97c (lf ob161j) .nil)) (nd ob49b (nd ob81b (lf ob145h) .nil) (nd (ob113d P) (lf ob177k) .nil))) (nd ob25b (nd ob41b (nd ob73b (lf ob137g) .nil) (nd ob105c (lf ob169j) .nil)) (nd ob57b (nd ob89b (lf ob153i) .nil) (lf ob121e)))) (nd ob13a (nd ob21b (nd ob37b (nd ob69b (lf ob133f) .nil) (nd ob101c (lf ob165j) .nil)) (nd ob53b (nd ob85b (lf ob149i) .nil) (lf ob117e))) (nd ob29b (nd ob45b (nd ob77b (lf ob141g) .nil) (nd ob109d (lf ob173k) .nil)) (nd ob61b (nd ob93c (lf ob157j) .nil) (lf ob125e)))))) (nd (boot_o_2 P) (nd (boot_o_4 P) (nd (boot_o_8 P) (nd ob16b (nd ob32b (nd ob64b (lf ob128e) .nil) (nd ob96c (lf ob160j) .nil)) (nd ob48b (nd ob80b (lf (ob144h P)) .nil) (nd ob112d (lf ob176k) .nil))) (nd ob24b (nd ob40b (nd ob72b (lf ob136g) .nil) (nd ob104c (lf (ob168j P)) .nil)) (nd ob56b (nd ob88b (lf ob152i) .nil) (lf ob120e)))) (nd ob12k (nd ob20b (nd ob36b (nd ob68b (lf (ob132f P)) .nil) (nd ob100c (lf ob164j) .nil)) (nd ob52b (nd ob84b (lf ob148i) .nil) (lf ob116d))) (nd ob28b (nd ob44b (nd ob76b (lf ob140g) .nil) (nd ob108d (lf ob172k) .nil)) (nd ob60b (nd ob92c (lf ob156j) .nil) (lf ob124e))))) (nd (boot_o_6 P) (nd (boot_o_10 P) (nd ob18b (nd ob34b (nd ob66b (lf ob130e) .nil) (nd ob98c (lf ob162j) .nil)) (nd ob50b (nd ob82b (lf ob146h) .nil) (nd ob114d (lf ob178k) .nil))) (nd ob26b (nd ob42b (nd ob74b (lf ob138g) .nil) (nd ob106d (lf ob170j) .nil)) (nd ob58b (nd ob90b (lf ob154i) .nil) (lf ob122e)))) (nd ob14a (nd ob22b (nd ob38b (nd ob70b (lf ob134f) .nil) (nd ob102c (lf ob166j) .nil)) (nd ob54b (nd ob86b (lf ob150i) .nil) (lf ob118e))) (nd ob30b (nd ob46b (nd ob78b (lf ob142g) .nil) (nd ob110d (lf ob174k) .nil)) (nd ob62b (nd ob94c (lf ob158j) .nil) (lf ob126e)))))))
noncomputable def shk (w : World) (os : OsState) : SharedT := ⟨trk w.params, 179, bLife, .mk [], boot_drawn, 479, os⟩
noncomputable def ob3l (P : Params) : Obj := ⟨(.type "dict"), none, (.dict (en P (cs [95, 95, 110, 97, 109, 101, 95, 95]) 165 (.str (cs [99, 112, 121, 51, 49, 51, 46, 115, 116, 114, 105, 110, 103, 112, 114, 101, 112]) 298) :: (ent3 P).take 32).toArray 33), [].toArray⟩
noncomputable def ob179l : Obj := ⟨(.type "list"), none, (.seq [(.int 917505 479)].toArray 0), [].toArray⟩
noncomputable def ob180l : Obj := ⟨(.type "range"), none, (.fields [(.int 917536 480), (.int 917632 481), (.int 1 482)].toArray), [].toArray⟩
noncomputable def ob181l : Obj := ⟨(.type "list"), none, (.seq [(.int 917536 485), (.int 917537 486), (.int 917538 487), (.int 917539 488), (.int 917540 489), (.int 917541 490), (.int 917542 491), (.int 917543 492), (.int 917544 493), (.int 917545 494), (.int 917546 495), (.int 917547 496), (.int 917548 497), (.int 917549 498), (.int 917550 499), (.int 917551 500), (.int 917552 501), (.int 917553 502), (.int 917554 503), (.int 917555 504), (.int 917556 505), (.int 917557 506), (.int 917558 507), (.int 917559 508), (.int 917560 509), (.int 917561 510), (.int 917562 511), (.int 917563 512), (.int 917564 513), (.int 917565 514), (.int 917566 515), (.int 917567 516), (.int 917568 517), (.int 917569 518), (.int 917570 519), (.int 917571 520), (.int 917572 521), (.int 917573 522), (.int 917574 523), (.int 917575 524), (.int 917576 525), (.int 917577 526), (.int 917578 527), (.int 917579 528), (.int 917580 529), (.int 917581 530), (.int 917582 531), (.int 917583 532), (.int 917584 533), (.int 917585 534), (.int 917586 535), (.int 917587 536), (.int 917588 537), (.int 917589 538), (.int 917590 539), (.int 917591 540), (.int 917592 541), (.int 917593 542), (.int 917594 543), (.int 917595 544), (.int 917596 545), (.int 917597 546), (.int 917598 547), (.int 917599 548), (.int 917600 549), (.int 917601 550), (.int 917602 551), (.int 917603 552), (.int 917604 553), (.int 917605 554), (.int 917606 555), (.int 917607 556), (.int 917608 557), (.int 917609 558), (.int 917610 559), (.int 917611 560), (.int 917612 561), (.int 917613 562), (.int 917614 563), (.int 917615 564), (.int 917616 565), (.int 917617 566), (.int 917618 567), (.int 917619 568), (.int 917620 569), (.int 917621 570), (.int 917622 571), (.int 917623 572), (.int 917624 573), (.int 917625 574), (.int 917626 575), (.int 917627 576), (.int 917628 577), (.int 917629 578), (.int 917630 579), (.int 917631 580)].toArray 98), [].toArray⟩
noncomputable def ob182l : Obj := ⟨(.type "range_iterator"), none, (.fields [(.int 917632 0), (.int 0 0), (.int 1 0)].toArray), [].toArray⟩
noncomputable def ob183l : Obj := ⟨(.type "tuple"), none, (.seq [].toArray 0), [].toArray⟩
noncomputable def ob184l : Obj := ⟨(.type "StopIteration"), none, (.fields [(.ref 183), .none, .none, .none, (.bool false), .none].toArray), [].toArray⟩
noncomputable def ob185l : Obj := ⟨(.type "list"), none, (.seq [(.int 917505 479), (.int 917536 485), (.int 917537 486), (.int 917538 487), (.int 917539 488), (.int 917540 489), (.int 917541 490), (.int 917542 491), (.int 917543 492), (.int 917544 493), (.int 917545 494), (.int 917546 495), (.int 917547 496), (.int 917548 497), (.int 917549 498), (.int 917550 499), (.int 917551 500), (.int 917552 501), (.int 917553 502), (.int 917554 503), (.int 917555 504), (.int 917556 505), (.int 917557 506), (.int 917558 507), (.int 917559 508), (.int 917560 509), (.int 917561 510), (.int 917562 511), (.int 917563 512), (.int 917564 513), (.int 917565 514), (.int 917566 515), (.int 917567 516), (.int 917568 517), (.int 917569 518), (.int 917570 519), (.int 917571 520), (.int 917572 521), (.int 917573 522), (.int 917574 523), (.int 917575 524), (.int 917576 525), (.int 917577 526), (.int 917578 527), (.int 917579 528), (.int 917580 529), (.int 917581 530), (.int 917582 531), (.int 917583 532), (.int 917584 533), (.int 917585 534), (.int 917586 535), (.int 917587 536), (.int 917588 537), (.int 917589 538), (.int 917590 539), (.int 917591 540), (.int 917592 541), (.int 917593 542), (.int 917594 543), (.int 917595 544), (.int 917596 545), (.int 917597 546), (.int 917598 547), (.int 917599 548), (.int 917600 549), (.int 917601 550), (.int 917602 551), (.int 917603 552), (.int 917604 553), (.int 917605 554), (.int 917606 555), (.int 917607 556), (.int 917608 557), (.int 917609 558), (.int 917610 559), (.int 917611 560), (.int 917612 561), (.int 917613 562), (.int 917614 563), (.int 917615 564), (.int 917616 565), (.int 917617 566), (.int 917618 567), (.int 917619 568), (.int 917620 569), (.int 917621 570), (.int 917622 571), (.int 917623 572), (.int 917624 573), (.int 917625 574), (.int 917626 575), (.int 917627 576), (.int 917628 577), (.int 917629 578), (.int 917630 579), (.int 917631 580)].toArray 0), [].toArray⟩
noncomputable def ob186l (P : Params) : Obj := ⟨(.type "set"), none, (.set [sv 917505 479, sv 917536 485, sv 917537 486, sv 917538 487, sv 917539 488, sv 917540 489, sv 917541 490, sv 917542 491, sv 917543 492, sv 917544 493, sv 917545 494, sv 917546 495, sv 917547 496, sv 917548 497, sv 917549 498, sv 917550 499, sv 917551 500, sv 917552 501, sv 917553 502, sv 917554 503, sv 917555 504, sv 917556 505, sv 917557 506, sv 917558 507, sv 917559 508, sv 917560 509, sv 917561 510, sv 917562 511, sv 917563 512, sv 917564 513, sv 917565 514, sv 917566 515, sv 917567 516, sv 917568 517, sv 917569 518, sv 917570 519, sv 917571 520, sv 917572 521, sv 917573 522, sv 917574 523, sv 917575 524, sv 917576 525, sv 917577 526, sv 917578 527, sv 917579 528, sv 917580 529, sv 917581 530, sv 917582 531, sv 917583 532, sv 917584 533, sv 917585 534, sv 917586 535, sv 917587 536, sv 917588 537, sv 917589 538, sv 917590 539, sv 917591 540, sv 917592 541, sv 917593 542, sv 917594 543, sv 917595 544, sv 917596 545, sv 917597 546, sv 917598 547, sv 917599 548, sv 917600 549, sv 917601 550, sv 917602 551, sv 917603 552, sv 917604 553, sv 917605 554, sv 917606 555, sv 917607 556, sv 917608 557, sv 917609 558, sv 917610 559, sv 917611 560, sv 917612 561, sv 917613 562, sv 917614 563, sv 917615 564, sv 917616 565, sv 917617 566, sv 917618 567, sv 917619 568, sv 917620 569, sv 917621 570, sv 917622 571, sv 917623 572, sv 917624 573, sv 917625 574, sv 917626 575, sv 917627 576, sv 917628 577, sv 917629 578, sv 917630 579, sv 917631 580].toArray 100 ⟨511, [1, 32, 33, 34, 35, 36, 37, 38, 39, 40, 41, 42, 43, 44, 45, 46, 47, 48, 49, 50, 51, 52, 53, 54, 55, 56, 57, 58, 59, 60, 61, 62, 63, 64, 65, 66, 67, 68, 69, 70, 71, 72, 73, 74, 75, 76, 77, 78, 79, 80, 81, 82, 83, 84, 85, 86, 87, 88, 89, 90, 91, 92, 93, 94, 95, 96, 97, 98, 99, 100, 101, 102, 103, 104, 105, 106, 107, 108, 109, 110, 111, 112, 113, 114, 115, 116, 117, 118, 119, 120, 121, 122, 123, 124, 125, 126, 127].toArray, [].toArray, 0, !P.followText "set-order", 3, true⟩), [].toArray⟩
noncomputable def ob187l : Obj := ⟨(.type "list_iterator"), none, (.fields [.none, (.int 97 0)].toArray), [].toArray⟩
noncomputable def ob188l : Obj := ⟨(.type "tuple"), none, (.seq [].toArray 0), [].toArray⟩
noncomputable def ob189l : Obj := ⟨(.type "StopIteration"), none, (.fields [(.ref 188), .none, .none, .none, (.bool false), .none].toArray), [].toArray⟩
noncomputable def trl (P : Params) : BT := (nd (boot_o_0 P) (nd (boot_o_1 P) (nd (ob3l P) (nd (boot_o_7 P) (nd ob15b (nd ob31b (nd ob63b (lf ob127e) .nil) (nd ob95c (lf ob159j) .nil)) (nd ob47b (nd ob79b (lf ob143h) .nil) (nd ob111d (lf ob175k) .nil))) (nd ob23b (nd ob39b (nd ob71b (lf ob135f) .nil) (nd ob103c (lf ob167j) .nil)) (nd ob55b (nd ob87b (lf ob151i) .nil) (nd ob119e (lf ob183l) .nil)))) (nd ob11a (nd ob19b (nd ob35b (nd ob67b (lf ob131f) .nil) (nd ob99c (lf ob163j) .nil)) (nd ob51b (nd ob83b (lf ob147h) .nil) (nd ob115d (lf ob179l) .nil))) (nd ob27b (nd ob43b (nd ob75b (lf ob139g) .nil) (nd ob107d (lf ob171j) .nil)) (nd ob59b (nd ob91b (lf ob155j) .nil) (nd ob123e (lf ob187l) .nil))))) (nd (boot_o_5 P) (nd (boot_o_9 P) (nd ob17b (nd ob33b (nd ob65b (lf ob129e) .nil) (nd ob97c (lf ob161j) .nil)) (nd ob49b (nd ob81b (lf ob145h) .nil) (nd (ob113d P) (lf ob177k) .nil))) (nd ob25b (nd ob41b (nd ob73b (lf ob137g) .nil) (nd ob105c (lf ob169j) .nil)) (nd ob57b (nd ob89b (lf ob153i) .nil) (nd ob121e (lf ob185l) .nil)))) (nd ob13a (nd ob21b (nd ob37b (nd ob69b (lf ob133f) .nil) (nd ob101c (lf ob165j) .nil)) (nd ob53b (nd ob85b (lf ob149i) .nil) (nd ob117e (lf ob181l) .nil))) (nd ob29b (nd ob45b (nd ob77b (lf ob141g) .nil) (nd ob109d (lf ob173k) .nil)) (nd ob61b (nd ob93c (lf ob157j) .nil) (nd ob125e (lf ob189l) .nil)))))) (nd (boot_o_2 P) (nd (boot_o_4 P) (nd (boot_o_8 P) (nd ob16b (nd ob32b (nd ob64b (lf ob128e) .nil) (nd ob96c (lf ob160j) .nil)) (nd ob48b (nd ob80b (lf (ob144h P)) .nil) (nd ob112d (lf ob176k) .nil))) (nd ob24b (nd ob40b (nd ob72b (lf ob136g) .nil) (nd ob104c (lf (ob168j P)) .nil)) (nd ob56b (nd ob88b (lf ob152i) .nil) (nd ob120e (lf ob184l) .nil)))) (nd ob12k (nd ob20b (nd ob36b (nd ob68b (lf (ob132f P)) .nil) (nd ob100c (lf ob164j) .nil)) (nd ob52b (nd ob84b (lf ob148i) .nil) (nd ob116d (lf ob180l) .nil))) (nd ob28b (nd ob44b (nd ob76b (lf ob140g) .nil) (nd ob108d (lf ob172k) .nil)) (nd ob60b (nd ob92c (lf ob156j) .nil) (nd ob124e (lf ob188l) .nil))))) (nd (boot_o_6 P) (nd (boot_o_10 P) (nd ob18b (nd ob34b (nd ob66b (lf ob130e) .nil) (nd ob98c (lf ob162j) .nil)) (nd ob50b (nd ob82b (lf ob146h) .nil) (nd ob114d (lf ob178k) .nil))) (nd ob26b (nd ob42b (nd ob74b (lf ob138g) .nil) (nd ob106d (lf ob170j) .nil)) (nd ob58b (nd ob90b (lf ob154i) .nil) (nd ob122e (lf (ob186l P)) .nil)))) (nd ob14a (nd ob22b (nd ob38b (nd ob70b (lf ob134f) .nil) (nd ob102c (lf ob166j) .nil)) (nd ob54b (nd ob86b (lf ob150i) .nil) (nd ob118e (lf ob182l) .nil))) (nd ob30b (nd ob46b (nd ob78b (lf ob142g) .nil) (nd ob110d (lf ob174k) .nil)) (nd ob62b (nd ob94c (lf ob158j) .nil) (lf ob126e)))))))
noncomputable def shl (w : World) (os : OsState) : SharedT := ⟨trl w.params, 190, bLife, .mk [], boot_drawn, 679, os⟩
noncomputable def ob3m (P : Params) : Obj := ⟨(.type "dict"), none, (.dict (en P (cs [95, 95, 110, 97, 109, 101, 95, 95]) 165 (.str (cs [108, 97, 119, 95, 120, 103, 48, 48, 49, 54, 95, 48, 49]) 686) :: (ent3 P).take 43).toArray 44), [].toArray⟩
noncomputable def ob12m : Obj := ⟨.none, none, (.fields (fld12.take 87).toArray), [].toArray⟩
noncomputable def ob190m : Obj := ⟨(.type "tuple"), none, (.seq [].toArray 0), [].toArray⟩
noncomputable def ob191m : Obj := ⟨.none, none, (.fields [].toArray), [].toArray⟩
noncomputable def ob192m : Obj := ⟨(.type "tuple"), none, (.seq [(.str (cs [99, 111, 100, 101]) 682)].toArray 0), [].toArray⟩
noncomputable def ob193m : Obj := ⟨(.type "tuple"), none, (.seq [].toArray 0), [].toArray⟩
noncomputable def ob194m : Obj := ⟨.none, none, (.func (fnO 27 0 .none .none .none .none none .none .none 0)), [].toArray⟩
noncomputable def ob195m : Obj := ⟨(.type "code"), none, (.fields [(.str (cs [105, 110, 95, 116, 97, 98, 108, 101, 95, 99, 57]) 679), (.str (cs [105, 110, 95, 116, 97, 98, 108, 101, 95, 99, 57]) 680), (.str (cs [47, 99, 108, 97, 105, 109, 47, 99, 117, 116, 46, 112, 121]) 681), (.int 68 0), (.int 1 0), (.int 0 0), (.int 0 0), (.int 3 0), (.ref 190), (.bool true), (.int 181 0), (.ref 191), .none, (.ref 192), (.ref 193), (.ref 194), (.int 683 0), (.int 68 0), (.str (cs [47, 99, 108, 97, 105, 109, 47, 99, 117, 116, 46, 112, 121]) 684)].toArray), [].toArray⟩
noncomputable def ob196m : Obj := ⟨(.type "function"), none, (.func (fnO 27 3 .none .none .none (.str (cs [99, 112, 121, 51, 49, 51, 46, 115, 116, 114, 105, 110, 103, 112, 114, 101, 112]) 298) none (.ref 195) .none 0)), [].toArray⟩
noncomputable def ob197m : Obj := ⟨(.type "tuple"), none, (.seq [].toArray 0), [].toArray⟩
noncomputable def ob198m : Obj := ⟨.none, none, (.fields [].toArray), [].toArray⟩
noncomputable def ob199m : Obj := ⟨.none, none, (.func (fnO 29 0 .none .none .none .none none .none .none 0)), [].toArray⟩
noncomputable def ob200m : Obj := ⟨(.type "code"), none, (.fields [(.str (cs [95, 108, 97, 119, 95, 110, 117, 109, 98, 101, 114, 115]) 688), (.str (cs [95, 108, 97, 119, 95, 110, 117, 109, 98, 101, 114, 115]) 689), (.str (cs [47, 99, 108, 97, 105, 109, 47, 99, 117, 116, 46, 112, 121]) 690), (.int 71 0), (.int 1 0), (.int 0 0), (.int 0 0), (.int 3 0), (.ref 197), (.bool true), (.int 181 0), (.ref 198), .none, .none, .none, (.ref 199), (.int 691 0), (.int 71 0), (.str (cs [47, 99, 108, 97, 105, 109, 47, 99, 117, 116, 46, 112, 121]) 692)].toArray), [].toArray⟩
noncomputable def ob201m : Obj := ⟨(.type "function"), none, (.func (fnO 29 3 .none .none .none (.str (cs [108, 97, 119, 95, 120, 103, 48, 48, 49, 54, 95, 48, 49]) 686) none (.ref 200) .none 0)), [].toArray⟩
noncomputable def ob202m : Obj := ⟨(.type "tuple"), none, (.seq [].toArray 0), [].toArray⟩
noncomputable def ob203m : Obj := ⟨.none, none, (.fields [].toArray), [].toArray⟩
noncomputable def ob204m : Obj := ⟨(.type "tuple"), none, (.seq [(.str (cs [107, 105, 110, 100]) 697), (.str (cs [115, 105, 103, 110]) 698)].toArray 0), [].toArray⟩
noncomputable def ob205m : Obj := ⟨(.type "tuple"), none, (.seq [].toArray 0), [].toArray⟩
noncomputable def ob206m : Obj := ⟨.none, none, (.func (fnO 30 0 .none .none .none .none none .none .none 0)), [].toArray⟩
noncomputable def ob207m : Obj := ⟨(.type "code"), none, (.fields [(.str (cs [95, 108, 97, 119, 95, 104, 111, 108, 100, 115]) 694), (.str (cs [95, 108, 97, 119, 95, 104, 111, 108, 100, 115]) 695), (.str (cs [47, 99, 108, 97, 105, 109, 47, 99, 117, 116, 46, 112, 121]) 696), (.int 74 0), (.int 2 0), (.int 0 0), (.int 0 0), (.int 3 0), (.ref 202), (.bool true), (.int 181 0), (.ref 203), .none, (.ref 204), (.ref 205), (.ref 206), (.int 699 0), (.int 74 0), (.str (cs [47, 99, 108, 97, 105, 109, 47, 99, 117, 116, 46, 112, 121]) 700)].toArray), [].toArray⟩
noncomputable def ob208m : Obj := ⟨(.type "function"), none, (.func (fnO 30 3 .none .none .none (.str (cs [108, 97, 119, 95, 120, 103, 48, 48, 49, 54, 95, 48, 49]) 686) none (.ref 207) .none 0)), [].toArray⟩
noncomputable def ob209m : Obj := ⟨(.type "tuple"), none, (.seq [].toArray 0), [].toArray⟩
noncomputable def ob210m : Obj := ⟨.none, none, (.fields [].toArray), [].toArray⟩
noncomputable def ob211m : Obj := ⟨(.type "tuple"), none, (.seq [(.str (cs [116, 101, 120, 116]) 705), (.str (cs [117, 110, 108, 105, 107, 101]) 706), (.str (cs [115, 105, 103, 110]) 707)].toArray 0), [].toArray⟩
noncomputable def ob212m : Obj := ⟨(.type "tuple"), none, (.seq [].toArray 0), [].toArray⟩
noncomputable def ob213m : Obj := ⟨.none, none, (.func (fnO 31 0 .none .none .none .none none .none .none 0)), [].toArray⟩
noncomputable def ob214m : Obj := ⟨(.type "code"), none, (.fields [(.str (cs [95, 108, 97, 119, 95, 117, 110, 108, 105, 107, 101]) 702), (.str (cs [95, 108, 97, 119, 95, 117, 110, 108, 105, 107, 101]) 703), (.str (cs [47, 99, 108, 97, 105, 109, 47, 99, 117, 116, 46, 112, 121]) 704), (.int 86 0), (.int 1 0), (.int 0 0), (.int 0 0), (.int 3 0), (.ref 209), (.bool true), (.int 181 0), (.ref 210), .none, (.ref 211), (.ref 212), (.ref 213), (.int 708 0), (.int 86 0), (.str (cs [47, 99, 108, 97, 105, 109, 47, 99, 117, 116, 46, 112, 121]) 709)].toArray), [].toArray⟩
noncomputable def ob215m : Obj := ⟨(.type "function"), none, (.func (fnO 31 3 .none .none .none (.str (cs [108, 97, 119, 95, 120, 103, 48, 48, 49, 54, 95, 48, 49]) 686) none (.ref 214) .none 0)), [].toArray⟩
noncomputable def ob216m : Obj := ⟨(.type "tuple"), none, (.seq [].toArray 0), [].toArray⟩
noncomputable def ob217m : Obj := ⟨.none, none, (.fields [].toArray), [].toArray⟩
noncomputable def ob218m : Obj := ⟨(.type "tuple"), none, (.seq [(.str (cs [115, 105, 122, 101, 115]) 714), (.str (cs [109, 97, 114, 107, 115]) 715), (.str (cs [112, 108, 97, 99, 101]) 716), (.str (cs [115, 105, 122, 101]) 717)].toArray 0), [].toArray⟩
noncomputable def ob219m : Obj := ⟨(.type "tuple"), none, (.seq [].toArray 0), [].toArray⟩
noncomputable def ob220m : Obj := ⟨.none, none, (.func (fnO 32 0 .none .none .none .none none .none .none 0)), [].toArray⟩
noncomputable def ob221m : Obj := ⟨(.type "code"), none, (.fields [(.str (cs [95, 108, 97, 119, 95, 109, 97, 114, 107, 115]) 711), (.str (cs [95, 108, 97, 119, 95, 109, 97, 114, 107, 115]) 712), (.str (cs [47, 99, 108, 97, 105, 109, 47, 99, 117, 116, 46, 112, 121]) 713), (.int 92 0), (.int 1 0), (.int 0 0), (.int 0 0), (.int 3 0), (.ref 216), (.bool true), (.int 181 0), (.ref 217), .none, (.ref 218), (.ref 219), (.ref 220), (.int 718 0), (.int 92 0), (.str (cs [47, 99, 108, 97, 105, 109, 47, 99, 117, 116, 46, 112, 121]) 719)].toArray), [].toArray⟩
noncomputable def ob222m : Obj := ⟨(.type "function"), none, (.func (fnO 32 3 .none .none .none (.str (cs [108, 97, 119, 95, 120, 103, 48, 48, 49, 54, 95, 48, 49]) 686) none (.ref 221) .none 0)), [].toArray⟩
noncomputable def ob223m : Obj := ⟨(.type "tuple"), none, (.seq [].toArray 0), [].toArray⟩
noncomputable def ob224m : Obj := ⟨.none, none, (.fields [].toArray), [].toArray⟩
noncomputable def ob225m : Obj := ⟨(.type "tuple"), none, (.seq [(.str (cs [111, 110, 101]) 724), (.str (cs [116, 119, 111]) 725), (.str (cs [112, 114, 111, 100, 117, 99, 116]) 726), (.str (cs [107]) 727), (.str (cs [106]) 728)].toArray 0), [].toArray⟩
noncomputable def ob226m : Obj := ⟨(.type "tuple"), none, (.seq [].toArray 0), [].toArray⟩
noncomputable def ob227m : Obj := ⟨.none, none, (.func (fnO 33 0 .none .none .none .none none .none .none 0)), [].toArray⟩
noncomputable def ob228m : Obj := ⟨(.type "code"), none, (.fields [(.str (cs [95, 108, 97, 119, 95, 116, 105, 109, 101, 115]) 721), (.str (cs [95, 108, 97, 119, 95, 116, 105, 109, 101, 115]) 722), (.str (cs [47, 99, 108, 97, 105, 109, 47, 99, 117, 116, 46, 112, 121]) 723), (.int 101 0), (.int 2 0), (.int 0 0), (.int 0 0), (.int 3 0), (.ref 223), (.bool true), (.int 181 0), (.ref 224), .none, (.ref 225), (.ref 226), (.ref 227), (.int 729 0), (.int 101 0), (.str (cs [47, 99, 108, 97, 105, 109, 47, 99, 117, 116, 46, 112, 121]) 730)].toArray), [].toArray⟩
noncomputable def ob229m : Obj := ⟨(.type "function"), none, (.func (fnO 33 3 .none .none .none (.str (cs [108, 97, 119, 95, 120, 103, 48, 48, 49, 54, 95, 48, 49]) 686) none (.ref 228) .none 0)), [].toArray⟩
noncomputable def ob230m : Obj := ⟨(.type "tuple"), none, (.seq [].toArray 0), [].toArray⟩
noncomputable def ob231m : Obj := ⟨.none, none, (.fields [].toArray), [].toArray⟩
noncomputable def ob232m : Obj := ⟨(.type "tuple"), none, (.seq [(.str (cs [116, 101, 120, 116]) 735), (.str (cs [108, 111, 119]) 736), (.str (cs [109, 105, 100, 100, 108, 101]) 737), (.str (cs [100, 101, 112, 116, 104]) 738), (.str (cs [112, 114, 111, 100, 117, 99, 116]) 739), (.str (cs [115, 105, 103, 110]) 740)].toArray 0), [].toArray⟩
noncomputable def ob233m : Obj := ⟨(.type "tuple"), none, (.seq [].toArray 0), [].toArray⟩
noncomputable def ob234m : Obj := ⟨.none, none, (.func (fnO 34 0 .none .none .none .none none .none .none 0)), [].toArray⟩
noncomputable def ob235m : Obj := ⟨(.type "code"), none, (.fields [(.str (cs [95, 108, 97, 119, 95, 112, 114, 111, 100, 117, 99, 116]) 732), (.str (cs [95, 108, 97, 119, 95, 112, 114, 111, 100, 117, 99, 116]) 733), (.str (cs [47, 99, 108, 97, 105, 109, 47, 99, 117, 116, 46, 112, 121]) 734), (.int 107 0), (.int 4 0), (.int 0 0), (.int 0 0), (.int 3 0), (.ref 230), (.bool true), (.int 181 0), (.ref 231), .none, (.ref 232), (.ref 233), (.ref 234), (.int 741 0), (.int 107 0), (.str (cs [47, 99, 108, 97, 105, 109, 47, 99, 117, 116, 46, 112, 121]) 742)].toArray), [].toArray⟩
noncomputable def ob236m : Obj := ⟨(.type "function"), none, (.func (fnO 34 3 .none .none .none (.str (cs [108, 97, 119, 95, 120, 103, 48, 48, 49, 54, 95, 48, 49]) 686) none (.ref 235) .none 0)), [].toArray⟩
noncomputable def ob237m : Obj := ⟨(.type "tuple"), none, (.seq [].toArray 0), [].toArray⟩
noncomputable def ob238m : Obj := ⟨.none, none, (.fields [].toArray), [].toArray⟩
noncomputable def ob239m : Obj := ⟨.none, none, (.func (fnO 35 0 .none .none .none .none none .none .none 0)), [].toArray⟩
noncomputable def ob240m : Obj := ⟨(.type "code"), none, (.fields [(.str (cs [95, 108, 97, 119, 95, 114, 101, 115, 116]) 744), (.str (cs [95, 108, 97, 119, 95, 114, 101, 115, 116]) 745), (.str (cs [47, 99, 108, 97, 105, 109, 47, 99, 117, 116, 46, 112, 121]) 746), (.int 112 0), (.int 2 0), (.int 0 0), (.int 0 0), (.int 3 0), (.ref 237), (.bool true), (.int 181 0), (.ref 238), .none, .none, .none, (.ref 239), (.int 747 0), (.int 112 0), (.str (cs [47, 99, 108, 97, 105, 109, 47, 99, 117, 116, 46, 112, 121]) 748)].toArray), [].toArray⟩
noncomputable def ob241m : Obj := ⟨(.type "function"), none, (.func (fnO 35 3 .none .none .none (.str (cs [108, 97, 119, 95, 120, 103, 48, 48, 49, 54, 95, 48, 49]) 686) none (.ref 240) .none 0)), [].toArray⟩
noncomputable def ob242m : Obj := ⟨(.type "tuple"), none, (.seq [].toArray 0), [].toArray⟩
noncomputable def ob243m : Obj := ⟨.none, none, (.fields [].toArray), [].toArray⟩
noncomputable def ob244m : Obj := ⟨.none, none, (.func (fnO 36 0 .none .none .none .none none .none .none 0)), [].toArray⟩
noncomputable def ob245m : Obj := ⟨(.type "code"), none, (.fields [(.str (cs [95, 108, 97, 119, 95, 99, 104, 97, 105, 110]) 750), (.str (cs [95, 108, 97, 119, 95, 99, 104, 97, 105, 110]) 751), (.str (cs [47, 99, 108, 97, 105, 109, 47, 99, 117, 116, 46, 112, 121]) 752), (.int 122 0), (.int 1 0), (.int 0 0), (.int 0 0), (.int 3 0), (.ref 242), (.bool true), (.int 181 0), (.ref 243), .none, .none, .none, (.ref 244), (.int 753 0), (.int 122 0), (.str (cs [47, 99, 108, 97, 105, 109, 47, 99, 117, 116, 46, 112, 121]) 754)].toArray), [].toArray⟩
noncomputable def ob246m : Obj := ⟨(.type "function"), none, (.func (fnO 36 3 .none .none .none (.str (cs [108, 97, 119, 95, 120, 103, 48, 48, 49, 54, 95, 48, 49]) 686) none (.ref 245) .none 0)), [].toArray⟩
noncomputable def ob247m : Obj := ⟨(.type "tuple"), none, (.seq [].toArray 0), [].toArray⟩
noncomputable def ob248m : Obj := ⟨.none, none, (.fields [].toArray), [].toArray⟩
noncomputable def ob249m : Obj := ⟨.none, none, (.func (fnO 37 0 .none .none .none .none none .none .none 0)), [].toArray⟩
noncomputable def ob250m : Obj := ⟨(.type "code"), none, (.fields [(.str (cs [95, 108, 97, 119, 95, 99, 104, 97, 110, 103, 101, 115]) 756), (.str (cs [95, 108, 97, 119, 95, 99, 104, 97, 110, 103, 101, 115]) 757), (.str (cs [47, 99, 108, 97, 105, 109, 47, 99, 117, 116, 46, 112, 121]) 758), (.int 130 0), (.int 2 0), (.int 0 0), (.int 0 0), (.int 3 0), (.ref 247), (.bool true), (.int 181 0), (.ref 248), .none, .none, .none, (.ref 249), (.int 759 0), (.int 130 0), (.str (cs [47, 99, 108, 97, 105, 109, 47, 99, 117, 116, 46, 112, 121]) 760)].toArray), [].toArray⟩
noncomputable def ob251m : Obj := ⟨(.type "function"), none, (.func (fnO 37 3 .none .none .none (.str (cs [108, 97, 119, 95, 120, 103, 48, 48, 49, 54, 95, 48, 49]) 686) none (.ref 250) .none 0)), [].toArray⟩
noncomputable def ob252m : Obj := ⟨(.type "tuple"), none, (.seq [].toArray 0), [].toArray⟩
noncomputable def ob253m : Obj := ⟨.none, none, (.fields [].toArray), [].toArray⟩
noncomputable def ob254m : Obj := ⟨.none, none, (.func (fnO 38 0 .none .none .none .none none .none .none 0)), [].toArray⟩
noncomputable def ob255m : Obj := ⟨(.type "code"), none, (.fields [(.str (cs [108, 97, 119]) 762), (.str (cs [108, 97, 119]) 763), (.str (cs [47, 99, 108, 97, 105, 109, 47, 99, 117, 116, 46, 112, 121]) 764), (.int 139 0), (.int 1 0), (.int 0 0), (.int 0 0), (.int 3 0), (.ref 252), (.bool true), (.int 181 0), (.ref 253), .none, .none, .none, (.ref 254), (.int 765 0), (.int 139 0), (.str (cs [47, 99, 108, 97, 105, 109, 47, 99, 117, 116, 46, 112, 121]) 766)].toArray), [].toArray⟩
noncomputable def ob256m : Obj := ⟨(.type "function"), none, (.func (fnO 38 3 .none .none .none (.str (cs [108, 97, 119, 95, 120, 103, 48, 48, 49, 54, 95, 48, 49]) 686) none (.ref 255) .none 0)), [].toArray⟩
noncomputable def trm (P : Params) : BT := (nd (boot_o_0 P) (nd (boot_o_1 P) (nd (ob3m P) (nd (boot_o_7 P) (nd ob15b (nd ob31b (nd ob63b (nd ob127e (lf ob255m) .nil) (lf ob191m)) (nd ob95c (lf ob159j) (lf ob223m))) (nd ob47b (nd ob79b (lf ob143h) (lf ob207m)) (nd ob111d (lf ob175k) (lf ob239m)))) (nd ob23b (nd ob39b (nd ob71b (lf ob135f) (lf ob199m)) (nd ob103c (lf ob167j) (lf ob231m))) (nd ob55b (nd ob87b (lf ob151i) (lf ob215m)) (nd ob119e (lf ob183l) (lf ob247m))))) (nd ob11a (nd ob19b (nd ob35b (nd ob67b (lf ob131f) (lf ob195m)) (nd ob99c (lf ob163j) (lf ob227m))) (nd ob51b (nd ob83b (lf ob147h) (lf ob211m)) (nd ob115d (lf ob179l) (lf ob243m)))) (nd ob27b (nd ob43b (nd ob75b (lf ob139g) (lf ob203m)) (nd ob107d (lf ob171j) (lf ob235m))) (nd ob59b (nd ob91b (lf ob155j) (lf ob219m)) (nd ob123e (lf ob187l) (lf ob251m)))))) (nd (boot_o_5 P) (nd (boot_o_9 P) (nd ob17b (nd ob33b (nd ob65b (lf ob129e) (lf ob193m)) (nd ob97c (lf ob161j) (lf ob225m))) (nd ob49b (nd ob81b (lf ob145h) (lf ob209m)) (nd (ob113d P) (lf ob177k) (lf ob241m)))) (nd ob25b (nd ob41b (nd ob73b (lf ob137g) (lf ob201m)) (nd ob105c (lf ob169j) (lf ob233m))) (nd ob57b (nd ob89b (lf ob153i) (lf ob217m)) (nd ob121e (lf ob185l) (lf ob249m))))) (nd ob13a (nd ob21b (nd ob37b (nd ob69b (lf ob133f) (lf ob197m)) (nd ob101c (lf ob165j) (lf ob229m))) (nd ob53b (nd ob85b (lf ob149i) (lf ob213m)) (nd ob117e (lf ob181l) (lf ob245m)))) (nd ob29b (nd ob45b (nd ob77b (lf ob141g) (lf ob205m)) (nd ob109d (lf ob173k) (lf ob237m))) (nd ob61b (nd ob93c (lf ob157j) (lf ob221m)) (nd ob125e (lf ob189l) (lf ob253m))))))) (nd (boot_o_2 P) (nd (boot_o_4 P) (nd (boot_o_8 P) (nd ob16b (nd ob32b (nd ob64b (nd ob128e (lf ob256m) .nil) (lf ob192m)) (nd ob96c (lf ob160j) (lf ob224m))) (nd ob48b (nd ob80b (lf (ob144h P)) (lf ob208m)) (nd ob112d (lf ob176k) (lf ob240m)))) (nd ob24b (nd ob40b (nd ob72b (lf ob136g) (lf ob200m)) (nd ob104c (lf (ob168j P)) (lf ob232m))) (nd ob56b (nd ob88b (lf ob152i) (lf ob216m)) (nd ob120e (lf ob184l) (lf ob248m))))) (nd ob12m (nd ob20b (nd ob36b (nd ob68b (lf (ob132f P)) (lf ob196m)) (nd ob100c (lf ob164j) (lf ob228m))) (nd ob52b (nd ob84b (lf ob148i) (lf ob212m)) (nd ob116d (lf ob180l) (lf ob244m)))) (nd ob28b (nd ob44b (nd ob76b (lf ob140g) (lf ob204m)) (nd ob108d (lf ob172k) (lf ob236m))) (nd ob60b (nd ob92c (lf ob156j) (lf ob220m)) (nd ob124e (lf ob188l) (lf ob252m)))))) (nd (boot_o_6 P) (nd (boot_o_10 P) (nd ob18b (nd ob34b (nd ob66b (lf ob130e) (lf ob194m)) (nd ob98c (lf ob162j) (lf ob226m))) (nd ob50b (nd ob82b (lf ob146h) (lf ob210m)) (nd ob114d (lf ob178k) (lf ob242m)))) (nd ob26b (nd ob42b (nd ob74b (lf ob138g) (lf ob202m)) (nd ob106d (lf ob170j) (lf ob234m))) (nd ob58b (nd ob90b (lf ob154i) (lf ob218m)) (nd ob122e (lf (ob186l P)) (lf ob250m))))) (nd ob14a (nd ob22b (nd ob38b (nd ob70b (lf ob134f) (lf ob198m)) (nd ob102c (lf ob166j) (lf ob230m))) (nd ob54b (nd ob86b (lf ob150i) (lf ob214m)) (nd ob118e (lf ob182l) (lf ob246m)))) (nd ob30b (nd ob46b (nd ob78b (lf ob142g) (lf ob206m)) (nd ob110d (lf ob174k) (lf ob238m))) (nd ob62b (nd ob94c (lf ob158j) (lf ob222m)) (nd ob126e (lf ob190m) (lf ob254m))))))))
noncomputable def shm (w : World) (os : OsState) : SharedT := ⟨trm w.params, 257, bLife, .mk [], boot_drawn, 768, os⟩
noncomputable def hpm (P : Params) : Heap := ⟨.mk [(boot_o_0 P), (boot_o_1 P), (boot_o_2 P), (ob3m P), (boot_o_4 P), (boot_o_5 P), (boot_o_6 P), (boot_o_7 P), (boot_o_8 P), (boot_o_9 P), (boot_o_10 P), ob11a, ob12m, ob13a, ob14a, ob15b, ob16b, ob17b, ob18b, ob19b, ob20b, ob21b, ob22b, ob23b, ob24b, ob25b, ob26b, ob27b, ob28b, ob29b, ob30b, ob31b, ob32b, ob33b, ob34b, ob35b, ob36b, ob37b, ob38b, ob39b, ob40b, ob41b, ob42b, ob43b, ob44b, ob45b, ob46b, ob47b, ob48b, ob49b, ob50b, ob51b, ob52b, ob53b, ob54b, ob55b, ob56b, ob57b, ob58b, ob59b, ob60b, ob61b, ob62b, ob63b, ob64b, ob65b, ob66b, ob67b, ob68b, ob69b, ob70b, ob71b, ob72b, ob73b, ob74b, ob75b, ob76b, ob77b, ob78b, ob79b, ob80b, ob81b, ob82b, ob83b, ob84b, ob85b, ob86b, ob87b, ob88b, ob89b, ob90b, ob91b, ob92c, ob93c, ob94c, ob95c, ob96c, ob97c, ob98c, ob99c, ob100c, ob101c, ob102c, ob103c, ob104c, ob105c, ob106d, ob107d, ob108d, ob109d, ob110d, ob111d, ob112d, (ob113d P), ob114d, ob115d, ob116d, ob117e, ob118e, ob119e, ob120e, ob121e, ob122e, ob123e, ob124e, ob125e, ob126e, ob127e, ob128e, ob129e, ob130e, ob131f, (ob132f P), ob133f, ob134f, ob135f, ob136g, ob137g, ob138g, ob139g, ob140g, ob141g, ob142g, ob143h, (ob144h P), ob145h, ob146h, ob147h, ob148i, ob149i, ob150i, ob151i, ob152i, ob153i, ob154i, ob155j, ob156j, ob157j, ob158j, ob159j, ob160j, ob161j, ob162j, ob163j, ob164j, ob165j, ob166j, ob167j, (ob168j P), ob169j, ob170j, ob171j, ob172k, ob173k, ob174k, ob175k, ob176k, ob177k, ob178k, ob179l, ob180l, ob181l, ob182l, ob183l, ob184l, ob185l, (ob186l P), ob187l, ob188l, ob189l, ob190m, ob191m, ob192m, ob193m, ob194m, ob195m, ob196m, ob197m, ob198m, ob199m, ob200m, ob201m, ob202m, ob203m, ob204m, ob205m, ob206m, ob207m, ob208m, ob209m, ob210m, ob211m, ob212m, ob213m, ob214m, ob215m, ob216m, ob217m, ob218m, ob219m, ob220m, ob221m, ob222m, ob223m, ob224m, ob225m, ob226m, ob227m, ob228m, ob229m, ob230m, ob231m, ob232m, ob233m, ob234m, ob235m, ob236m, ob237m, ob238m, ob239m, ob240m, ob241m, ob242m, ob243m, ob244m, ob245m, ob246m, ob247m, ob248m, ob249m, ob250m, ob251m, ob252m, ob253m, ob254m, ob255m, ob256m], bLife⟩
end Mine
end
end
section
open PySem PySem.W PyProof.Rows
section
namespace Mine
structure LS where
  k : Result → Sem Fin
  h : Option PySem.Value
  g : Bool
  l : List PySem.Value
  cd : Code
  p : Pos
  kept : List PySem.Value
  f2 : Frame
  rest : List Frame
noncomputable abbrev LS.stack (x : LS) : List Frame := .ret x.k x.h x.g x.l x.cd x.p x.kept :: x.f2 :: x.rest
noncomputable def lsOf : List Frame → LS
  | .ret k h g l cd p kept :: f2 :: rest => ⟨k, h, g, l, cd, p, kept, f2, rest⟩
  | _ => ⟨fun _ => .pure (.done .next), none, false, [], .builtin "" {}, p00, [], topFrame p00, []⟩
noncomputable def goT : Option (SharedT × Thread) → List Frame
  | some x => x.2.stack
  | none => []
noncomputable abbrev bl (n : String) (as : List PySem.Value) : Code := .builtin n ⟨as, []⟩
noncomputable abbrev lpT (c cc : Code) (q : Pos) (x : LS) : Thread := ⟨.pure (.again c), cc, q, x.stack⟩
noncomputable abbrev rw1 : String := "special-get-raises"
noncomputable def Turn (X : Bool → World → OsState → SharedT) (c : Code) (q : Pos) (n : Nat) (Y : Bool → World → OsState → SharedT) (b : Bool) (w : World) : Prop := ∀ (os : OsState) (x : LS), tGo tTab tp w 11 annT 1 n (X b w os) (lpT c c q x) = some (Y b w os, lpT c c q x)
noncomputable abbrev rw2 : String := "set-order"
noncomputable abbrev wa (w : World) : World := (w.withFollow rw1 false).withFollow rw2 false
noncomputable abbrev wb (w : World) : World := (w.withFollow rw1 true).withFollow rw2 false
noncomputable abbrev wc (w : World) : World := (w.withFollow rw1 false).withFollow rw2 true
noncomputable abbrev wd (w : World) : World := (w.withFollow rw1 true).withFollow rw2 true
structure B4 (P : Bool → World → Prop) : Prop where
  a : ∀ w : World, P false (wa w)
  b : ∀ w : World, P false (wb w)
  c : ∀ w : World, P true (wc w)
  d : ∀ w : World, P true (wd w)
theorem B4.all {P : World → Prop} (h : B4 fun _ w => P w) : ∀ w, P w :=
  byRow2 rw2 (byRow2 rw1 (P := fun w => P (w.withFollow rw2 false)) h.a h.b) (byRow2 rw1 (P := fun w => P (w.withFollow rw2 true)) h.c h.d)
theorem B4.of {P : Bool → World → Prop} (h : ∀ b w, P b w) : B4 P := ⟨fun w => h _ _, fun w => h _ _, fun w => h _ _, fun w => h _ _⟩
theorem B4.imp {P Q : Bool → World → Prop} (f : ∀ b w, P b w → Q b w) (h : B4 P) : B4 Q := ⟨fun w => f _ _ (h.a w), fun w => f _ _ (h.b w), fun w => f _ _ (h.c w), fun w => f _ _ (h.d w)⟩
theorem B4.and {P Q : Bool → World → Prop} (h : B4 P) (k : B4 Q) : B4 fun b w => P b w ∧ Q b w := ⟨fun w => ⟨h.a w, k.a w⟩, fun w => ⟨h.b w, k.b w⟩, fun w => ⟨h.c w, k.c w⟩, fun w => ⟨h.d w, k.d w⟩⟩
noncomputable abbrev sgR (w : World) (n : Nat) (s : Shared) (t : Thread) := segRun treeTable tp w 11 annT 1 n s t
theorem run_T {w : World} {n : Nat} {s s' : SharedT} {t : Thread} {f : Flow} {c : Code} {q : Pos} (h : tRun tTab tp w 11 annT 1 n s t = some (f, s', c, q)) : sgR w n s.abs t = some (f, s'.abs, c, q) := by
  refine segRun_of ?_
  rw [tRun_eq, tTab_eq]
  exact h
theorem go_T {w : World} {n : Nat} {s s' : SharedT} {t t' : Thread} (h : tGo tTab tp w 11 annT 1 n s t = some (s', t')) : segGo treeTable tp w 11 annT 1 n s.abs t = some (s'.abs, t') := by
  refine segGo_of ?_
  rw [tGo_eq, tTab_eq]
  exact h
end Mine
end
end
section
open PySem PySem.W PyProof.Rows
section
namespace Mine
noncomputable def ob106r17a : Obj := ⟨(.type "list"), none, (.seq [(.int 173 300), (.int 847 301), (.int 6150 302), (.int 6155 303), (.int 6156 304), (.int 6157 305), (.int 8203 306), (.int 8204 307), (.int 8205 308), (.int 8288 309), (.int 65279 310)].toArray 0), [].toArray⟩
noncomputable def ob107r17a : Obj := ⟨(.type "range"), none, (.fields [(.int 65024 311), (.int 65040 312), (.int 1 313)].toArray), [].toArray⟩
noncomputable def tr17a (v108 v109 : Obj) (P : Params) : BT := (nd (boot_o_0 P) (nd (boot_o_1 P) (nd (ob3c P) (nd (boot_o_7 P) (nd ob15b (nd ob31b (lf ob63b) (lf ob95c)) (nd ob47b (lf ob79b) .nil)) (nd ob23b (nd ob39b (lf ob71b) (lf ob103c)) (nd ob55b (lf ob87b) .nil))) (nd ob11a (nd ob19b (nd ob35b (lf ob67b) (lf ob99c)) (nd ob51b (lf ob83b) .nil)) (nd ob27b (nd ob43b (lf ob75b) (lf ob107r17a)) (nd ob59b (lf ob91b) .nil)))) (nd (boot_o_5 P) (nd (boot_o_9 P) (nd ob17b (nd ob33b (lf ob65b) (lf ob97c)) (nd ob49b (lf ob81b) .nil)) (nd ob25b (nd ob41b (lf ob73b) (lf ob105c)) (nd ob57b (lf ob89b) .nil))) (nd ob13a (nd ob21b (nd ob37b (lf ob69b) (lf ob101c)) (nd ob53b (lf ob85b) .nil)) (nd ob29b (nd ob45b (lf ob77b) (lf v109)) (nd ob61b (lf ob93c) .nil))))) (nd (boot_o_2 P) (nd (boot_o_4 P) (nd (boot_o_8 P) (nd ob16b (nd ob32b (lf ob64b) (lf ob96c)) (nd ob48b (lf ob80b) .nil)) (nd ob24b (nd ob40b (lf ob72b) (lf ob104c)) (nd ob56b (lf ob88b) .nil))) (nd ob12c (nd ob20b (nd ob36b (lf ob68b) (lf ob100c)) (nd ob52b (lf ob84b) .nil)) (nd ob28b (nd ob44b (lf ob76b) (lf v108)) (nd ob60b (lf ob92c) .nil)))) (nd (boot_o_6 P) (nd (boot_o_10 P) (nd ob18b (nd ob34b (lf ob66b) (lf ob98c)) (nd ob50b (lf ob82b) .nil)) (nd ob26b (nd ob42b (lf ob74b) (lf ob106r17a)) (nd ob58b (lf ob90b) .nil))) (nd ob14a (nd ob22b (nd ob38b (lf ob70b) (lf ob102c)) (nd ob54b (lf ob86b) .nil)) (nd ob30b (nd ob46b (lf ob78b) .nil) (nd ob62b (lf ob94c) .nil))))))
noncomputable def sh17a (v108 v109 : Bool → Obj) (toks : Nat) (b : Bool) (w : World) (os : OsState) : SharedT := ⟨tr17a (v108 b) (v109 b) w.params, 110, bLife, .mk [], boot_drawn, toks, os⟩
noncomputable abbrev cd17a : Code := bl "list.extend.loop" [(.ref 108), (.ref 109), .none]
noncomputable abbrev cc17a : Code := (bl "list.extend.loop" [(.ref 108), (.ref 109), .none])
noncomputable def o17an0v108 (b : Bool) : Obj := ⟨(.type "list"), none, (.seq [(.int 65024 316)].toArray 3), [].toArray⟩
noncomputable def o17an0v109 (b : Bool) : Obj := ⟨(.type "range_iterator"), none, (.fields [(.int 65025 0), (.int 15 0), (.int 1 0)].toArray), [].toArray⟩
noncomputable def o17an1v108 (b : Bool) : Obj := ⟨(.type "list"), none, (.seq [(.int 65024 316), (.int 65025 317), (.int 65026 318), (.int 65027 319), (.int 65028 320), (.int 65029 321), (.int 65030 322), (.int 65031 323), (.int 65032 324), (.int 65033 325), (.int 65034 326), (.int 65035 327), (.int 65036 328), (.int 65037 329), (.int 65038 330), (.int 65039 331)].toArray 18), [].toArray⟩
noncomputable def o17an1v109 (b : Bool) : Obj := ⟨(.type "range_iterator"), none, (.fields [(.int 65040 0), (.int 0 0), (.int 1 0)].toArray), [].toArray⟩
noncomputable def ls17a (b : Bool) (w : World) (os : OsState) : LS := lsOf (goT (tGo tTab tp w 11 annT 1 113 (shc w os) (thT (sgT 17 1) ⟨47, 0, 47, 8⟩)))
noncomputable def IN17a (b : Bool) (w : World) : Prop := ∀ os, tGo tTab tp w 11 annT 1 113 (shc w os) (thT (sgT 17 1) ⟨47, 0, 47, 8⟩) = some ((sh17a o17an0v108 o17an0v109 317) b w os, (lpT cd17a cc17a ⟨48, 81, 48, 106⟩ (ls17a b w os)))
theorem in17af : (∀ w, IN17a false (wa w)) ∧ ∀ w, IN17a false (wb w) := ⟨fun w os => by kernel_rfl, fun w os => by kernel_rfl⟩
theorem in17at : (∀ w, IN17a true (wc w)) ∧ ∀ w, IN17a true (wd w) := ⟨fun w os => by kernel_rfl, fun w os => by kernel_rfl⟩
theorem in17a : B4 IN17a := ⟨in17af.1, in17af.2, in17at.1, in17at.2⟩
theorem tn17an1 : B4 (Turn (sh17a o17an0v108 o17an0v109 317) cd17a ⟨48, 81, 48, 106⟩ 255 (sh17a o17an1v108 o17an1v109 332)) := .of fun b w os x => by kernel_rfl
noncomputable def ob108r17b : Obj := ⟨(.type "list"), none, (.seq [(.int 65024 316), (.int 65025 317), (.int 65026 318), (.int 65027 319), (.int 65028 320), (.int 65029 321), (.int 65030 322), (.int 65031 323), (.int 65032 324), (.int 65033 325), (.int 65034 326), (.int 65035 327), (.int 65036 328), (.int 65037 329), (.int 65038 330), (.int 65039 331)].toArray 18), [].toArray⟩
noncomputable def ob109r17b : Obj := ⟨(.type "range_iterator"), none, (.fields [(.int 65040 0), (.int 0 0), (.int 1 0)].toArray), [].toArray⟩
noncomputable def ob110r17b : Obj := ⟨(.type "tuple"), none, (.seq [].toArray 0), [].toArray⟩
noncomputable def ob111r17b : Obj := ⟨(.type "StopIteration"), none, (.fields [(.ref 110), .none, .none, .none, (.bool false), .none].toArray), [].toArray⟩
noncomputable def ob112r17b : Obj := ⟨(.type "list"), none, (.seq [(.int 173 300), (.int 847 301), (.int 6150 302), (.int 6155 303), (.int 6156 304), (.int 6157 305), (.int 8203 306), (.int 8204 307), (.int 8205 308), (.int 8288 309), (.int 65279 310), (.int 65024 316), (.int 65025 317), (.int 65026 318), (.int 65027 319), (.int 65028 320), (.int 65029 321), (.int 65030 322), (.int 65031 323), (.int 65032 324), (.int 65033 325), (.int 65034 326), (.int 65035 327), (.int 65036 328), (.int 65037 329), (.int 65038 330), (.int 65039 331)].toArray 0), [].toArray⟩
noncomputable def tr17b (v113 : Obj) (P : Params) : BT := (nd (boot_o_0 P) (nd (boot_o_1 P) (nd (ob3c P) (nd (boot_o_7 P) (nd ob15b (nd ob31b (lf ob63b) (lf ob95c)) (nd ob47b (lf ob79b) (lf ob111r17b))) (nd ob23b (nd ob39b (lf ob71b) (lf ob103c)) (nd ob55b (lf ob87b) .nil))) (nd ob11a (nd ob19b (nd ob35b (lf ob67b) (lf ob99c)) (nd ob51b (lf ob83b) .nil)) (nd ob27b (nd ob43b (lf ob75b) (lf ob107r17a)) (nd ob59b (lf ob91b) .nil)))) (nd (boot_o_5 P) (nd (boot_o_9 P) (nd ob17b (nd ob33b (lf ob65b) (lf ob97c)) (nd ob49b (lf ob81b) (lf v113))) (nd ob25b (nd ob41b (lf ob73b) (lf ob105c)) (nd ob57b (lf ob89b) .nil))) (nd ob13a (nd ob21b (nd ob37b (lf ob69b) (lf ob101c)) (nd ob53b (lf ob85b) .nil)) (nd ob29b (nd ob45b (lf ob77b) (lf ob109r17b)) (nd ob61b (lf ob93c) .nil))))) (nd (boot_o_2 P) (nd (boot_o_4 P) (nd (boot_o_8 P) (nd ob16b (nd ob32b (lf ob64b) (lf ob96c)) (nd ob48b (lf ob80b) (lf ob112r17b))) (nd ob24b (nd ob40b (lf ob72b) (lf ob104c)) (nd ob56b (lf ob88b) .nil))) (nd ob12c (nd ob20b (nd ob36b (lf ob68b) (lf ob100c)) (nd ob52b (lf ob84b) .nil)) (nd ob28b (nd ob44b (lf ob76b) (lf ob108r17b)) (nd ob60b (lf ob92c) .nil)))) (nd (boot_o_6 P) (nd (boot_o_10 P) (nd ob18b (nd ob34b (lf ob66b) (lf ob98c)) (nd ob50b (lf ob82b) .nil)) (nd ob26b (nd ob42b (lf ob74b) (lf ob106r17a)) (nd ob58b (lf ob90b) .nil))) (nd ob14a (nd ob22b (nd ob38b (lf ob70b) (lf ob102c)) (nd ob54b (lf ob86b) .nil)) (nd ob30b (nd ob46b (lf ob78b) (lf ob110r17b)) (nd ob62b (lf ob94c) .nil))))))
noncomputable def sh17b (v113 : Bool → Obj) (toks : Nat) (b : Bool) (w : World) (os : OsState) : SharedT := ⟨tr17b (v113 b) w.params, 114, bLife, .mk [], boot_drawn, toks, os⟩
noncomputable abbrev cd17b : Code := bl "set.__init__" [(.ref 113), (.ref 112)]
noncomputable abbrev cc17b : Code := (.call (.builtin "set.__init__") ⟨[(.ref 113), (.ref 112)], []⟩)
noncomputable def o17bn0v113 (b : Bool) : Obj := ⟨(.type "set"), none, (.set [].toArray 0 ⟨7, [].toArray, [].toArray, 0, !b, 0, true⟩), [].toArray⟩
noncomputable def ls17b (b : Bool) (w : World) (os : OsState) : LS := lsOf (goT (tGo tTab tp w 11 annT 1 44 ((sh17a o17an1v108 o17an1v109 332) b w os) (lpT cd17a cc17a ⟨48, 81, 48, 106⟩ (ls17a b w os))))
noncomputable def IN17b (b : Bool) (w : World) : Prop := ∀ os, tGo tTab tp w 11 annT 1 44 ((sh17a o17an1v108 o17an1v109 332) b w os) (lpT cd17a cc17a ⟨48, 81, 48, 106⟩ (ls17a b w os)) = some ((sh17b o17bn0v113 332) b w os, (lpT cd17b cc17b ⟨48, 9, 48, 107⟩ (ls17b b w os)))
theorem in17bf : (∀ w, IN17b false (wa w)) ∧ ∀ w, IN17b false (wb w) := ⟨fun w os => by kernel_rfl, fun w os => by kernel_rfl⟩
theorem in17bt : (∀ w, IN17b true (wc w)) ∧ ∀ w, IN17b true (wd w) := ⟨fun w os => by kernel_rfl, fun w os => by kernel_rfl⟩
theorem in17b : B4 IN17b := ⟨in17bf.1, in17bf.2, in17bt.1, in17bt.2⟩
noncomputable def ob114r17c : Obj := ⟨(.type "list_iterator"), none, (.fields [(.ref 112), (.int 1 0)].toArray), [].toArray⟩
noncomputable def tr17c (v113 : Obj) (P : Params) : BT := (nd (boot_o_0 P) (nd (boot_o_1 P) (nd (ob3c P) (nd (boot_o_7 P) (nd ob15b (nd ob31b (lf ob63b) (lf ob95c)) (nd ob47b (lf ob79b) (lf ob111r17b))) (nd ob23b (nd ob39b (lf ob71b) (lf ob103c)) (nd ob55b (lf ob87b) .nil))) (nd ob11a (nd ob19b (nd ob35b (lf ob67b) (lf ob99c)) (nd ob51b (lf ob83b) .nil)) (nd ob27b (nd ob43b (lf ob75b) (lf ob107r17a)) (nd ob59b (lf ob91b) .nil)))) (nd (boot_o_5 P) (nd (boot_o_9 P) (nd ob17b (nd ob33b (lf ob65b) (lf ob97c)) (nd ob49b (lf ob81b) (lf v113))) (nd ob25b (nd ob41b (lf ob73b) (lf ob105c)) (nd ob57b (lf ob89b) .nil))) (nd ob13a (nd ob21b (nd ob37b (lf ob69b) (lf ob101c)) (nd ob53b (lf ob85b) .nil)) (nd ob29b (nd ob45b (lf ob77b) (lf ob109r17b)) (nd ob61b (lf ob93c) .nil))))) (nd (boot_o_2 P) (nd (boot_o_4 P) (nd (boot_o_8 P) (nd ob16b (nd ob32b (lf ob64b) (lf ob96c)) (nd ob48b (lf ob80b) (lf ob112r17b))) (nd ob24b (nd ob40b (lf ob72b) (lf ob104c)) (nd ob56b (lf ob88b) .nil))) (nd ob12c (nd ob20b (nd ob36b (lf ob68b) (lf ob100c)) (nd ob52b (lf ob84b) .nil)) (nd ob28b (nd ob44b (lf ob76b) (lf ob108r17b)) (nd ob60b (lf ob92c) .nil)))) (nd (boot_o_6 P) (nd (boot_o_10 P) (nd ob18b (nd ob34b (lf ob66b) (lf ob98c)) (nd ob50b (lf ob82b) (lf ob114r17c))) (nd ob26b (nd ob42b (lf ob74b) (lf ob106r17a)) (nd ob58b (lf ob90b) .nil))) (nd ob14a (nd ob22b (nd ob38b (lf ob70b) (lf ob102c)) (nd ob54b (lf ob86b) .nil)) (nd ob30b (nd ob46b (lf ob78b) (lf ob110r17b)) (nd ob62b (lf ob94c) .nil))))))
noncomputable def sh17c (v113 : Bool → Obj) (toks : Nat) (b : Bool) (w : World) (os : OsState) : SharedT := ⟨tr17c (v113 b) w.params, 115, bLife, .mk [], boot_drawn, toks, os⟩
noncomputable abbrev cd17c : Code := bl "int.__hash__" [(.int 173 300)]
noncomputable abbrev cc17c : Code := (.call (.builtin "int.__hash__") ⟨[(.int 173 300)], []⟩)
noncomputable def o17cn0v113 (b : Bool) : Obj := ⟨(.type "set"), none, (.set [].toArray 0 ⟨7, [].toArray, [].toArray, 0, !b, 0, true⟩), [].toArray⟩
noncomputable def ls17c (b : Bool) (w : World) (os : OsState) : LS := lsOf (goT (tGo tTab tp w 11 annT 1 28 ((sh17b o17bn0v113 332) b w os) (lpT cd17b cc17b ⟨48, 9, 48, 107⟩ (ls17b b w os))))
noncomputable def IN17c (b : Bool) (w : World) : Prop := ∀ os, tGo tTab tp w 11 annT 1 28 ((sh17b o17bn0v113 332) b w os) (lpT cd17b cc17b ⟨48, 9, 48, 107⟩ (ls17b b w os)) = some ((sh17c o17cn0v113 332) b w os, (lpT cd17c cc17c ⟨48, 9, 48, 107⟩ (ls17c b w os)))
theorem in17cf : (∀ w, IN17c false (wa w)) ∧ ∀ w, IN17c false (wb w) := ⟨fun w os => by kernel_rfl, fun w os => by kernel_rfl⟩
theorem in17ct : (∀ w, IN17c true (wc w)) ∧ ∀ w, IN17c true (wd w) := ⟨fun w os => by kernel_rfl, fun w os => by kernel_rfl⟩
theorem in17c : B4 IN17c := ⟨in17cf.1, in17cf.2, in17ct.1, in17ct.2⟩
noncomputable def tr17d (v113 v114 : Obj) (P : Params) : BT := (nd (boot_o_0 P) (nd (boot_o_1 P) (nd (ob3c P) (nd (boot_o_7 P) (nd ob15b (nd ob31b (lf ob63b) (lf ob95c)) (nd ob47b (lf ob79b) (lf ob111r17b))) (nd ob23b (nd ob39b (lf ob71b) (lf ob103c)) (nd ob55b (lf ob87b) .nil))) (nd ob11a (nd ob19b (nd ob35b (lf ob67b) (lf ob99c)) (nd ob51b (lf ob83b) .nil)) (nd ob27b (nd ob43b (lf ob75b) (lf ob107r17a)) (nd ob59b (lf ob91b) .nil)))) (nd (boot_o_5 P) (nd (boot_o_9 P) (nd ob17b (nd ob33b (lf ob65b) (lf ob97c)) (nd ob49b (lf ob81b) (lf v113))) (nd ob25b (nd ob41b (lf ob73b) (lf ob105c)) (nd ob57b (lf ob89b) .nil))) (nd ob13a (nd ob21b (nd ob37b (lf ob69b) (lf ob101c)) (nd ob53b (lf ob85b) .nil)) (nd ob29b (nd ob45b (lf ob77b) (lf ob109r17b)) (nd ob61b (lf ob93c) .nil))))) (nd (boot_o_2 P) (nd (boot_o_4 P) (nd (boot_o_8 P) (nd ob16b (nd ob32b (lf ob64b) (lf ob96c)) (nd ob48b (lf ob80b) (lf ob112r17b))) (nd ob24b (nd ob40b (lf ob72b) (lf ob104c)) (nd ob56b (lf ob88b) .nil))) (nd ob12c (nd ob20b (nd ob36b (lf ob68b) (lf ob100c)) (nd ob52b (lf ob84b) .nil)) (nd ob28b (nd ob44b (lf ob76b) (lf ob108r17b)) (nd ob60b (lf ob92c) .nil)))) (nd (boot_o_6 P) (nd (boot_o_10 P) (nd ob18b (nd ob34b (lf ob66b) (lf ob98c)) (nd ob50b (lf ob82b) (lf v114))) (nd ob26b (nd ob42b (lf ob74b) (lf ob106r17a)) (nd ob58b (lf ob90b) .nil))) (nd ob14a (nd ob22b (nd ob38b (lf ob70b) (lf ob102c)) (nd ob54b (lf ob86b) .nil)) (nd ob30b (nd ob46b (lf ob78b) (lf ob110r17b)) (nd ob62b (lf ob94c) .nil))))))
noncomputable def sh17d (v113 v114 : Bool → Obj) (toks : Nat) (b : Bool) (w : World) (os : OsState) : SharedT := ⟨tr17d (v113 b) (v114 b) w.params, 115, bLife, .mk [], boot_drawn, toks, os⟩
noncomputable abbrev cd17d : Code := bl "set.update.loop" [(.ref 113), (.ref 114)]
noncomputable abbrev cc17d : Code := (bl "set.update.loop" [(.ref 113), (.ref 114)])
noncomputable def o17dn0v113 (b : Bool) : Obj := ⟨(.type "set"), none, (.set [sv 173 300].toArray 1 ⟨7, [5].toArray, [].toArray, 0, !b, 0, true⟩), [].toArray⟩
noncomputable def o17dn0v114 (b : Bool) : Obj := ⟨(.type "list_iterator"), none, (.fields [(.ref 112), (.int 1 0)].toArray), [].toArray⟩
noncomputable def o17dn1v113 (b : Bool) : Obj := ⟨(.type "set"), none, (.set [sv 6150 302, sv 6155 303, sv 6156 304, sv 173 300, sv 847 301].toArray 6 ⟨31, [6, 11, 12, 13, 15].toArray, [].toArray, 0, !b, 1, true⟩), [].toArray⟩
noncomputable def o17dn1v114 (b : Bool) : Obj := ⟨(.type "list_iterator"), none, (.fields [(.ref 112), (.int 5 0)].toArray), [].toArray⟩
noncomputable def o17dn2v113 (b : Bool) : Obj := ⟨(.type "set"), none, (.set [sv 6150 302, sv 6155 303, sv 6156 304, sv 173 300, sv 6157 305, sv 847 301, sv 8203 306, sv 8204 307, sv 8205 308].toArray 10 ⟨31, [6, 11, 12, 13, 14, 15, 16, 17, 18].toArray, [].toArray, 0, !b, 1, true⟩), [].toArray⟩
noncomputable def o17dn2v114 (b : Bool) : Obj := ⟨(.type "list_iterator"), none, (.fields [(.ref 112), (.int 9 0)].toArray), [].toArray⟩
noncomputable def o17dn3v113 (b : Bool) : Obj := ⟨(.type "set"), none, (.set [sv 8288 309, sv 65024 316, sv 65025 317, sv 6150 302, sv 6155 303, sv 6156 304, sv 173 300, sv 6157 305, sv 847 301, sv 8203 306, sv 8204 307, sv 8205 308, sv 65279 310].toArray 14 ⟨31, [0, 1, 2, 6, 11, 12, 13, 14, 15, 16, 17, 18, 31].toArray, [].toArray, 0, !b, 1, true⟩), [].toArray⟩
noncomputable def o17dn3v114 (b : Bool) : Obj := ⟨(.type "list_iterator"), none, (.fields [(.ref 112), (.int 13 0)].toArray), [].toArray⟩
noncomputable def o17dn4v113 (b : Bool) : Obj := ⟨(.type "set"), none, (.set [sv 8288 309, sv 65024 316, sv 65025 317, sv 65026 318, sv 65027 319, sv 65028 320, sv 6150 302, sv 65029 321, sv 6155 303, sv 6156 304, sv 173 300, sv 6157 305, sv 847 301, sv 8203 306, sv 8204 307, sv 8205 308, sv 65279 310].toArray 18 ⟨31, [0, 1, 2, 3, 4, 5, 6, 7, 11, 12, 13, 14, 15, 16, 17, 18, 31].toArray, [].toArray, 0, !b, 1, true⟩), [].toArray⟩
noncomputable def o17dn4v114 (b : Bool) : Obj := ⟨(.type "list_iterator"), none, (.fields [(.ref 112), (.int 17 0)].toArray), [].toArray⟩
noncomputable def o17dn5v113 (b : Bool) : Obj := ⟨(.type "set"), none, (.set [sv 65024 316, sv 65025 317, sv 65026 318, sv 65027 319, sv 65028 320, sv 65029 321, sv 6150 302, sv 65030 322, sv 65031 323, sv 65032 324, sv 65033 325, sv 6155 303, sv 6156 304, sv 6157 305, sv 8203 306, sv 8204 307, sv 8205 308, sv 173 300, sv 847 301, sv 8288 309, sv 65279 310].toArray 23 ⟨127, [0, 1, 2, 3, 4, 5, 6, 7, 8, 9, 10, 11, 12, 13, 14, 15, 16, 45, 79, 96, 127].toArray, [].toArray, 0, !b, 2, true⟩), [].toArray⟩
noncomputable def o17dn5v114 (b : Bool) : Obj := ⟨(.type "list_iterator"), none, (.fields [(.ref 112), (.int 21 0)].toArray), [].toArray⟩
noncomputable def o17dn6v113 (b : Bool) : Obj := ⟨(.type "set"), none, (.set [sv 65024 316, sv 65025 317, sv 65026 318, sv 65027 319, sv 65028 320, sv 65029 321, sv 6150 302, sv 65030 322, sv 65031 323, sv 65032 324, sv 65033 325, sv 6155 303, sv 6156 304, sv 6157 305, sv 8203 306, sv 8204 307, sv 8205 308, sv 65034 326, sv 65035 327, sv 65036 328, sv 65037 329, sv 173 300, sv 847 301, sv 8288 309, sv 65279 310].toArray 27 ⟨127, [0, 1, 2, 3, 4, 5, 6, 7, 8, 9, 10, 11, 12, 13, 14, 15, 16, 17, 18, 19, 20, 45, 79, 96, 127].toArray, [].toArray, 0, !b, 2, true⟩), [].toArray⟩
noncomputable def o17dn6v114 (b : Bool) : Obj := ⟨(.type "list_iterator"), none, (.fields [(.ref 112), (.int 25 0)].toArray), [].toArray⟩
noncomputable def o17dn7v113 (b : Bool) : Obj := ⟨(.type "set"), none, (.set [sv 65024 316, sv 65025 317, sv 65026 318, sv 65027 319, sv 65028 320, sv 65029 321, sv 6150 302, sv 65030 322, sv 65031 323, sv 65032 324, sv 65033 325, sv 6155 303, sv 6156 304, sv 6157 305, sv 8203 306, sv 8204 307, sv 8205 308, sv 65034 326, sv 65035 327, sv 65036 328, sv 65037 329, sv 65038 330, sv 65039 331, sv 173 300, sv 847 301, sv 8288 309, sv 65279 310].toArray 29 ⟨127, [0, 1, 2, 3, 4, 5, 6, 7, 8, 9, 10, 11, 12, 13, 14, 15, 16, 17, 18, 19, 20, 21, 22, 45, 79, 96, 127].toArray, [].toArray, 0, !b, 2, true⟩), [].toArray⟩
noncomputable def o17dn7v114 (b : Bool) : Obj := ⟨(.type "list_iterator"), none, (.fields [(.ref 112), (.int 27 0)].toArray), [].toArray⟩
noncomputable def ls17d (b : Bool) (w : World) (os : OsState) : LS := lsOf (goT (tGo tTab tp w 11 annT 1 7 ((sh17c o17cn0v113 332) b w os) (lpT cd17c cc17c ⟨48, 9, 48, 107⟩ (ls17c b w os))))
noncomputable def IN17d (b : Bool) (w : World) : Prop := ∀ os, tGo tTab tp w 11 annT 1 7 ((sh17c o17cn0v113 332) b w os) (lpT cd17c cc17c ⟨48, 9, 48, 107⟩ (ls17c b w os)) = some ((sh17d o17dn0v113 o17dn0v114 333) b w os, (lpT cd17d cc17d ⟨48, 9, 48, 107⟩ (ls17d b w os)))
theorem in17df : (∀ w, IN17d false (wa w)) ∧ ∀ w, IN17d false (wb w) := ⟨fun w os => by kernel_rfl, fun w os => by kernel_rfl⟩
theorem in17dt : (∀ w, IN17d true (wc w)) ∧ ∀ w, IN17d true (wd w) := ⟨fun w os => by kernel_rfl, fun w os => by kernel_rfl⟩
theorem in17d : B4 IN17d := ⟨in17df.1, in17df.2, in17dt.1, in17dt.2⟩
theorem tn17dn1 : B4 (Turn (sh17d o17dn0v113 o17dn0v114 333) cd17d ⟨48, 9, 48, 107⟩ 82 (sh17d o17dn1v113 o17dn1v114 337)) := ⟨fun w os x => by kernel_rfl, fun w os x => by kernel_rfl, fun w os x => by kernel_rfl, fun w os x => by kernel_rfl⟩
theorem tn17dn2 : B4 (Turn (sh17d o17dn1v113 o17dn1v114 337) cd17d ⟨48, 9, 48, 107⟩ 80 (sh17d o17dn2v113 o17dn2v114 341)) := ⟨fun w os x => by kernel_rfl, fun w os x => by kernel_rfl, fun w os x => by kernel_rfl, fun w os x => by kernel_rfl⟩
theorem tn17dn3 : B4 (Turn (sh17d o17dn2v113 o17dn2v114 341) cd17d ⟨48, 9, 48, 107⟩ 80 (sh17d o17dn3v113 o17dn3v114 345)) := ⟨fun w os x => by kernel_rfl, fun w os x => by kernel_rfl, fun w os x => by kernel_rfl, fun w os x => by kernel_rfl⟩
theorem tn17dn4 : B4 (Turn (sh17d o17dn3v113 o17dn3v114 345) cd17d ⟨48, 9, 48, 107⟩ 80 (sh17d o17dn4v113 o17dn4v114 349)) := ⟨fun w os x => by kernel_rfl, fun w os x => by kernel_rfl, fun w os x => by kernel_rfl, fun w os x => by kernel_rfl⟩
theorem tn17dn5 : B4 (Turn (sh17d o17dn4v113 o17dn4v114 349) cd17d ⟨48, 9, 48, 107⟩ 82 (sh17d o17dn5v113 o17dn5v114 353)) := ⟨fun w os x => by kernel_rfl, fun w os x => by kernel_rfl, fun w os x => by kernel_rfl, fun w os x => by kernel_rfl⟩
theorem tn17dn6 : B4 (Turn (sh17d o17dn5v113 o17dn5v114 353) cd17d ⟨48, 9, 48, 107⟩ 80 (sh17d o17dn6v113 o17dn6v114 357)) := ⟨fun w os x => by kernel_rfl, fun w os x => by kernel_rfl, fun w os x => by kernel_rfl, fun w os x => by kernel_rfl⟩
theorem tn17dn7 : B4 (Turn (sh17d o17dn6v113 o17dn6v114 357) cd17d ⟨48, 9, 48, 107⟩ 40 (sh17d o17dn7v113 o17dn7v114 359)) := ⟨fun w os x => by kernel_rfl, fun w os x => by kernel_rfl, fun w os x => by kernel_rfl, fun w os x => by kernel_rfl⟩
theorem end17 : B4 fun b w => ∀ os, tRun tTab tp w 11 annT 1 28 ((sh17d o17dn7v113 o17dn7v114 359) b w os) (lpT cd17d cc17d ⟨48, 9, 48, 107⟩ (ls17d b w os)) = some (.next, shd w os, cdT, ⟨48, 0, 48, 6⟩) := ⟨fun w os => by kernel_rfl, fun w os => by kernel_rfl, fun w os => by kernel_rfl, fun w os => by kernel_rfl⟩
theorem pc17 (w : World) (os : OsState) : sgR w 999 (shc w os).abs (thT (sgT 17 1) ⟨47, 0, 47, 8⟩) = some (.next, (shd w os).abs, cdT, ⟨48, 0, 48, 6⟩) := by
  have e0 := (end17).imp fun b w h os => run_T (h os)
  have e1 := ((tn17dn7).and e0).imp fun b w h os => seg_go (N := 28) (go_T (h.1 os _)) (h.2 os)
  have e2 := ((tn17dn6).and e1).imp fun b w h os => seg_go (N := 68) (go_T (h.1 os _)) (h.2 os)
  have e3 := ((tn17dn5).and e2).imp fun b w h os => seg_go (N := 148) (go_T (h.1 os _)) (h.2 os)
  have e4 := ((tn17dn4).and e3).imp fun b w h os => seg_go (N := 230) (go_T (h.1 os _)) (h.2 os)
  have e5 := ((tn17dn3).and e4).imp fun b w h os => seg_go (N := 310) (go_T (h.1 os _)) (h.2 os)
  have e6 := ((tn17dn2).and e5).imp fun b w h os => seg_go (N := 390) (go_T (h.1 os _)) (h.2 os)
  have e7 := ((tn17dn1).and e6).imp fun b w h os => seg_go (N := 470) (go_T (h.1 os _)) (h.2 os)
  have e8 := ((in17d).and e7).imp fun b w h os => seg_go (N := 552) (go_T (h.1 os)) (h.2 os)
  have e9 := ((in17c).and e8).imp fun b w h os => seg_go (N := 559) (go_T (h.1 os)) (h.2 os)
  have e10 := ((in17b).and e9).imp fun b w h os => seg_go (N := 587) (go_T (h.1 os)) (h.2 os)
  have e11 := ((tn17an1).and e10).imp fun b w h os => seg_go (N := 631) (go_T (h.1 os _)) (h.2 os)
  have e12 := ((in17a).and e11).imp fun b w h os => seg_go (N := 886) (go_T (h.1 os)) (h.2 os)
  exact (e12).all w os
end Mine
end
end
section
open PySem PySem.W PyProof.Rows
section
namespace Mine
noncomputable def ob131r20a : Obj := ⟨(.type "range"), none, (.fields [(.int 65529 375), (.int 65534 376), (.int 1 377)].toArray), [].toArray⟩
noncomputable def tr20a (v132 : Obj) (P : Params) : BT := (nd (boot_o_0 P) (nd (boot_o_1 P) (nd (ob3e P) (nd (boot_o_7 P) (nd ob15b (nd ob31b (nd ob63b (lf ob127e) .nil) (lf ob95c)) (nd ob47b (lf ob79b) (lf ob111d))) (nd ob23b (nd ob39b (lf ob71b) (lf ob103c)) (nd ob55b (lf ob87b) (lf ob119e)))) (nd ob11a (nd ob19b (nd ob35b (nd ob67b (lf ob131r20a) .nil) (lf ob99c)) (nd ob51b (lf ob83b) (lf ob115d))) (nd ob27b (nd ob43b (lf ob75b) (lf ob107d)) (nd ob59b (lf ob91b) (lf ob123e))))) (nd (boot_o_5 P) (nd (boot_o_9 P) (nd ob17b (nd ob33b (nd ob65b (lf ob129e) .nil) (lf ob97c)) (nd ob49b (lf ob81b) (lf (ob113d P)))) (nd ob25b (nd ob41b (lf ob73b) (lf ob105c)) (nd ob57b (lf ob89b) (lf ob121e)))) (nd ob13a (nd ob21b (nd ob37b (lf ob69b) (lf ob101c)) (nd ob53b (lf ob85b) (lf ob117e))) (nd ob29b (nd ob45b (lf ob77b) (lf ob109d)) (nd ob61b (lf ob93c) (lf ob125e)))))) (nd (boot_o_2 P) (nd (boot_o_4 P) (nd (boot_o_8 P) (nd ob16b (nd ob32b (nd ob64b (lf ob128e) .nil) (lf ob96c)) (nd ob48b (lf ob80b) (lf ob112d))) (nd ob24b (nd ob40b (lf ob72b) (lf ob104c)) (nd ob56b (lf ob88b) (lf ob120e)))) (nd ob12e (nd ob20b (nd ob36b (nd ob68b (lf v132) .nil) (lf ob100c)) (nd ob52b (lf ob84b) (lf ob116d))) (nd ob28b (nd ob44b (lf ob76b) (lf ob108d)) (nd ob60b (lf ob92c) (lf ob124e))))) (nd (boot_o_6 P) (nd (boot_o_10 P) (nd ob18b (nd ob34b (nd ob66b (lf ob130e) .nil) (lf ob98c)) (nd ob50b (lf ob82b) (lf ob114d))) (nd ob26b (nd ob42b (lf ob74b) (lf ob106d)) (nd ob58b (lf ob90b) (lf ob122e)))) (nd ob14a (nd ob22b (nd ob38b (lf ob70b) (lf ob102c)) (nd ob54b (lf ob86b) (lf ob118e))) (nd ob30b (nd ob46b (lf ob78b) (lf ob110d)) (nd ob62b (lf ob94c) (lf ob126e)))))))
noncomputable def sh20a (v132 : Bool → Obj) (toks : Nat) (b : Bool) (w : World) (os : OsState) : SharedT := ⟨tr20a (v132 b) w.params, 133, bLife, .mk [], boot_drawn, toks, os⟩
noncomputable abbrev cd20a : Code := bl "set.__init__" [(.ref 132), (.ref 131)]
noncomputable abbrev cc20a : Code := (.call (.builtin "set.__init__") ⟨[(.ref 132), (.ref 131)], []⟩)
noncomputable def o20an0v132 (b : Bool) : Obj := ⟨(.type "set"), none, (.set [].toArray 0 ⟨7, [].toArray, [].toArray, 0, !b, 0, true⟩), [].toArray⟩
noncomputable def ls20a (b : Bool) (w : World) (os : OsState) : LS := lsOf (goT (tGo tTab tp w 11 annT 1 39 (she w os) (thT (sgT 20 1) ⟨51, 0, 57, 46⟩)))
noncomputable def IN20a (b : Bool) (w : World) : Prop := ∀ os, tGo tTab tp w 11 annT 1 39 (she w os) (thT (sgT 20 1) ⟨51, 0, 57, 46⟩) = some ((sh20a o20an0v132 378) b w os, (lpT cd20a cc20a ⟨58, 9, 58, 33⟩ (ls20a b w os)))
theorem in20af : (∀ w, IN20a false (wa w)) ∧ ∀ w, IN20a false (wb w) := ⟨fun w os => by kernel_rfl, fun w os => by kernel_rfl⟩
theorem in20at : (∀ w, IN20a true (wc w)) ∧ ∀ w, IN20a true (wd w) := ⟨fun w os => by kernel_rfl, fun w os => by kernel_rfl⟩
theorem in20a : B4 IN20a := ⟨in20af.1, in20af.2, in20at.1, in20at.2⟩
noncomputable def ob133r20b : Obj := ⟨(.type "range_iterator"), none, (.fields [(.int 65530 0), (.int 4 0), (.int 1 0)].toArray), [].toArray⟩
noncomputable def tr20b (v132 : Obj) (P : Params) : BT := (nd (boot_o_0 P) (nd (boot_o_1 P) (nd (ob3e P) (nd (boot_o_7 P) (nd ob15b (nd ob31b (nd ob63b (lf ob127e) .nil) (lf ob95c)) (nd ob47b (lf ob79b) (lf ob111d))) (nd ob23b (nd ob39b (lf ob71b) (lf ob103c)) (nd ob55b (lf ob87b) (lf ob119e)))) (nd ob11a (nd ob19b (nd ob35b (nd ob67b (lf ob131r20a) .nil) (lf ob99c)) (nd ob51b (lf ob83b) (lf ob115d))) (nd ob27b (nd ob43b (lf ob75b) (lf ob107d)) (nd ob59b (lf ob91b) (lf ob123e))))) (nd (boot_o_5 P) (nd (boot_o_9 P) (nd ob17b (nd ob33b (nd ob65b (lf ob129e) .nil) (lf ob97c)) (nd ob49b (lf ob81b) (lf (ob113d P)))) (nd ob25b (nd ob41b (lf ob73b) (lf ob105c)) (nd ob57b (lf ob89b) (lf ob121e)))) (nd ob13a (nd ob21b (nd ob37b (nd ob69b (lf ob133r20b) .nil) (lf ob101c)) (nd ob53b (lf ob85b) (lf ob117e))) (nd ob29b (nd ob45b (lf ob77b) (lf ob109d)) (nd ob61b (lf ob93c) (lf ob125e)))))) (nd (boot_o_2 P) (nd (boot_o_4 P) (nd (boot_o_8 P) (nd ob16b (nd ob32b (nd ob64b (lf ob128e) .nil) (lf ob96c)) (nd ob48b (lf ob80b) (lf ob112d))) (nd ob24b (nd ob40b (lf ob72b) (lf ob104c)) (nd ob56b (lf ob88b) (lf ob120e)))) (nd ob12e (nd ob20b (nd ob36b (nd ob68b (lf v132) .nil) (lf ob100c)) (nd ob52b (lf ob84b) (lf ob116d))) (nd ob28b (nd ob44b (lf ob76b) (lf ob108d)) (nd ob60b (lf ob92c) (lf ob124e))))) (nd (boot_o_6 P) (nd (boot_o_10 P) (nd ob18b (nd ob34b (nd ob66b (lf ob130e) .nil) (lf ob98c)) (nd ob50b (lf ob82b) (lf ob114d))) (nd ob26b (nd ob42b (lf ob74b) (lf ob106d)) (nd ob58b (lf ob90b) (lf ob122e)))) (nd ob14a (nd ob22b (nd ob38b (lf ob70b) (lf ob102c)) (nd ob54b (lf ob86b) (lf ob118e))) (nd ob30b (nd ob46b (lf ob78b) (lf ob110d)) (nd ob62b (lf ob94c) (lf ob126e)))))))
noncomputable def sh20b (v132 : Bool → Obj) (toks : Nat) (b : Bool) (w : World) (os : OsState) : SharedT := ⟨tr20b (v132 b) w.params, 134, bLife, .mk [], boot_drawn, toks, os⟩
noncomputable abbrev cd20b : Code := bl "int.__hash__" [(.int 65529 378)]
noncomputable abbrev cc20b : Code := (.call (.builtin "int.__hash__") ⟨[(.int 65529 378)], []⟩)
noncomputable def o20bn0v132 (b : Bool) : Obj := ⟨(.type "set"), none, (.set [].toArray 0 ⟨7, [].toArray, [].toArray, 0, !b, 0, true⟩), [].toArray⟩
noncomputable def ls20b (b : Bool) (w : World) (os : OsState) : LS := lsOf (goT (tGo tTab tp w 11 annT 1 34 ((sh20a o20an0v132 378) b w os) (lpT cd20a cc20a ⟨58, 9, 58, 33⟩ (ls20a b w os))))
noncomputable def IN20b (b : Bool) (w : World) : Prop := ∀ os, tGo tTab tp w 11 annT 1 34 ((sh20a o20an0v132 378) b w os) (lpT cd20a cc20a ⟨58, 9, 58, 33⟩ (ls20a b w os)) = some ((sh20b o20bn0v132 379) b w os, (lpT cd20b cc20b ⟨58, 9, 58, 33⟩ (ls20b b w os)))
theorem in20bf : (∀ w, IN20b false (wa w)) ∧ ∀ w, IN20b false (wb w) := ⟨fun w os => by kernel_rfl, fun w os => by kernel_rfl⟩
theorem in20bt : (∀ w, IN20b true (wc w)) ∧ ∀ w, IN20b true (wd w) := ⟨fun w os => by kernel_rfl, fun w os => by kernel_rfl⟩
theorem in20b : B4 IN20b := ⟨in20bf.1, in20bf.2, in20bt.1, in20bt.2⟩
noncomputable def tr20c (v132 v133 : Obj) (P : Params) : BT := (nd (boot_o_0 P) (nd (boot_o_1 P) (nd (ob3e P) (nd (boot_o_7 P) (nd ob15b (nd ob31b (nd ob63b (lf ob127e) .nil) (lf ob95c)) (nd ob47b (lf ob79b) (lf ob111d))) (nd ob23b (nd ob39b (lf ob71b) (lf ob103c)) (nd ob55b (lf ob87b) (lf ob119e)))) (nd ob11a (nd ob19b (nd ob35b (nd ob67b (lf ob131r20a) .nil) (lf ob99c)) (nd ob51b (lf ob83b) (lf ob115d))) (nd ob27b (nd ob43b (lf ob75b) (lf ob107d)) (nd ob59b (lf ob91b) (lf ob123e))))) (nd (boot_o_5 P) (nd (boot_o_9 P) (nd ob17b (nd ob33b (nd ob65b (lf ob129e) .nil) (lf ob97c)) (nd ob49b (lf ob81b) (lf (ob113d P)))) (nd ob25b (nd ob41b (lf ob73b) (lf ob105c)) (nd ob57b (lf ob89b) (lf ob121e)))) (nd ob13a (nd ob21b (nd ob37b (nd ob69b (lf v133) .nil) (lf ob101c)) (nd ob53b (lf ob85b) (lf ob117e))) (nd ob29b (nd ob45b (lf ob77b) (lf ob109d)) (nd ob61b (lf ob93c) (lf ob125e)))))) (nd (boot_o_2 P) (nd (boot_o_4 P) (nd (boot_o_8 P) (nd ob16b (nd ob32b (nd ob64b (lf ob128e) .nil) (lf ob96c)) (nd ob48b (lf ob80b) (lf ob112d))) (nd ob24b (nd ob40b (lf ob72b) (lf ob104c)) (nd ob56b (lf ob88b) (lf ob120e)))) (nd ob12e (nd ob20b (nd ob36b (nd ob68b (lf v132) .nil) (lf ob100c)) (nd ob52b (lf ob84b) (lf ob116d))) (nd ob28b (nd ob44b (lf ob76b) (lf ob108d)) (nd ob60b (lf ob92c) (lf ob124e))))) (nd (boot_o_6 P) (nd (boot_o_10 P) (nd ob18b (nd ob34b (nd ob66b (lf ob130e) .nil) (lf ob98c)) (nd ob50b (lf ob82b) (lf ob114d))) (nd ob26b (nd ob42b (lf ob74b) (lf ob106d)) (nd ob58b (lf ob90b) (lf ob122e)))) (nd ob14a (nd ob22b (nd ob38b (lf ob70b) (lf ob102c)) (nd ob54b (lf ob86b) (lf ob118e))) (nd ob30b (nd ob46b (lf ob78b) (lf ob110d)) (nd ob62b (lf ob94c) (lf ob126e)))))))
noncomputable def sh20c (v132 v133 : Bool → Obj) (toks : Nat) (b : Bool) (w : World) (os : OsState) : SharedT := ⟨tr20c (v132 b) (v133 b) w.params, 134, bLife, .mk [], boot_drawn, toks, os⟩
noncomputable abbrev cd20c : Code := bl "set.update.loop" [(.ref 132), (.ref 133)]
noncomputable abbrev cc20c : Code := (bl "set.update.loop" [(.ref 132), (.ref 133)])
noncomputable def o20cn0v132 (b : Bool) : Obj := ⟨(.type "set"), none, (.set [sv 65529 378].toArray 1 ⟨7, [1].toArray, [].toArray, 0, !b, 0, true⟩), [].toArray⟩
noncomputable def o20cn0v133 (b : Bool) : Obj := ⟨(.type "range_iterator"), none, (.fields [(.int 65530 0), (.int 4 0), (.int 1 0)].toArray), [].toArray⟩
noncomputable def o20cn1v132 (b : Bool) : Obj := ⟨(.type "set"), none, (.set [sv 65529 378, sv 65530 380, sv 65531 382, sv 65532 384, sv 65533 386].toArray 6 ⟨31, [25, 26, 27, 28, 29].toArray, [].toArray, 0, !b, 1, true⟩), [].toArray⟩
noncomputable def o20cn1v133 (b : Bool) : Obj := ⟨(.type "range_iterator"), none, (.fields [(.int 65534 0), (.int 0 0), (.int 1 0)].toArray), [].toArray⟩
noncomputable def ls20c (b : Bool) (w : World) (os : OsState) : LS := lsOf (goT (tGo tTab tp w 11 annT 1 7 ((sh20b o20bn0v132 379) b w os) (lpT cd20b cc20b ⟨58, 9, 58, 33⟩ (ls20b b w os))))
noncomputable def IN20c (b : Bool) (w : World) : Prop := ∀ os, tGo tTab tp w 11 annT 1 7 ((sh20b o20bn0v132 379) b w os) (lpT cd20b cc20b ⟨58, 9, 58, 33⟩ (ls20b b w os)) = some ((sh20c o20cn0v132 o20cn0v133 380) b w os, (lpT cd20c cc20c ⟨58, 9, 58, 33⟩ (ls20c b w os)))
theorem in20cf : (∀ w, IN20c false (wa w)) ∧ ∀ w, IN20c false (wb w) := ⟨fun w os => by kernel_rfl, fun w os => by kernel_rfl⟩
theorem in20ct : (∀ w, IN20c true (wc w)) ∧ ∀ w, IN20c true (wd w) := ⟨fun w os => by kernel_rfl, fun w os => by kernel_rfl⟩
theorem in20c : B4 IN20c := ⟨in20cf.1, in20cf.2, in20ct.1, in20ct.2⟩
theorem tn20cn1 : B4 (Turn (sh20c o20cn0v132 o20cn0v133 380) cd20c ⟨58, 9, 58, 33⟩ 94 (sh20c o20cn1v132 o20cn1v133 388)) := ⟨fun w os x => by kernel_rfl, fun w os x => by kernel_rfl, fun w os x => by kernel_rfl, fun w os x => by kernel_rfl⟩
theorem end20 : B4 fun b w => ∀ os, tRun tTab tp w 11 annT 1 26 ((sh20c o20cn1v132 o20cn1v133 388) b w os) (lpT cd20c cc20c ⟨58, 9, 58, 33⟩ (ls20c b w os)) = some (.next, shf w os, cdT, ⟨58, 0, 58, 6⟩) := ⟨fun w os => by kernel_rfl, fun w os => by kernel_rfl, fun w os => by kernel_rfl, fun w os => by kernel_rfl⟩
theorem pc20 (w : World) (os : OsState) : sgR w 200 (she w os).abs (thT (sgT 20 1) ⟨51, 0, 57, 46⟩) = some (.next, (shf w os).abs, cdT, ⟨58, 0, 58, 6⟩) := by
  have e0 := (end20).imp fun b w h os => run_T (h os)
  have e1 := ((tn20cn1).and e0).imp fun b w h os => seg_go (N := 26) (go_T (h.1 os _)) (h.2 os)
  have e2 := ((in20c).and e1).imp fun b w h os => seg_go (N := 120) (go_T (h.1 os)) (h.2 os)
  have e3 := ((in20b).and e2).imp fun b w h os => seg_go (N := 127) (go_T (h.1 os)) (h.2 os)
  have e4 := ((in20a).and e3).imp fun b w h os => seg_go (N := 161) (go_T (h.1 os)) (h.2 os)
  exact (e4).all w os
end Mine
end
end
section
open PySem PySem.W PyProof.Rows
section
namespace Mine
noncomputable def ob143r22a : Obj := ⟨(.type "range"), none, (.fields [(.int 12272 396), (.int 12284 397), (.int 1 398)].toArray), [].toArray⟩
noncomputable def tr22a (v144 : Obj) (P : Params) : BT := (nd (boot_o_0 P) (nd (boot_o_1 P) (nd (ob3g P) (nd (boot_o_7 P) (nd ob15b (nd ob31b (nd ob63b (lf ob127e) .nil) (lf ob95c)) (nd ob47b (nd ob79b (lf ob143r22a) .nil) (lf ob111d))) (nd ob23b (nd ob39b (nd ob71b (lf ob135f) .nil) (lf ob103c)) (nd ob55b (lf ob87b) (lf ob119e)))) (nd ob11a (nd ob19b (nd ob35b (nd ob67b (lf ob131f) .nil) (lf ob99c)) (nd ob51b (lf ob83b) (lf ob115d))) (nd ob27b (nd ob43b (nd ob75b (lf ob139g) .nil) (lf ob107d)) (nd ob59b (lf ob91b) (lf ob123e))))) (nd (boot_o_5 P) (nd (boot_o_9 P) (nd ob17b (nd ob33b (nd ob65b (lf ob129e) .nil) (lf ob97c)) (nd ob49b (lf ob81b) (lf (ob113d P)))) (nd ob25b (nd ob41b (nd ob73b (lf ob137g) .nil) (lf ob105c)) (nd ob57b (lf ob89b) (lf ob121e)))) (nd ob13a (nd ob21b (nd ob37b (nd ob69b (lf ob133f) .nil) (lf ob101c)) (nd ob53b (lf ob85b) (lf ob117e))) (nd ob29b (nd ob45b (nd ob77b (lf ob141g) .nil) (lf ob109d)) (nd ob61b (lf ob93c) (lf ob125e)))))) (nd (boot_o_2 P) (nd (boot_o_4 P) (nd (boot_o_8 P) (nd ob16b (nd ob32b (nd ob64b (lf ob128e) .nil) (lf ob96c)) (nd ob48b (nd ob80b (lf v144) .nil) (lf ob112d))) (nd ob24b (nd ob40b (nd ob72b (lf ob136g) .nil) (lf ob104c)) (nd ob56b (lf ob88b) (lf ob120e)))) (nd ob12g (nd ob20b (nd ob36b (nd ob68b (lf (ob132f P)) .nil) (lf ob100c)) (nd ob52b (lf ob84b) (lf ob116d))) (nd ob28b (nd ob44b (nd ob76b (lf ob140g) .nil) (lf ob108d)) (nd ob60b (lf ob92c) (lf ob124e))))) (nd (boot_o_6 P) (nd (boot_o_10 P) (nd ob18b (nd ob34b (nd ob66b (lf ob130e) .nil) (lf ob98c)) (nd ob50b (lf ob82b) (lf ob114d))) (nd ob26b (nd ob42b (nd ob74b (lf ob138g) .nil) (lf ob106d)) (nd ob58b (lf ob90b) (lf ob122e)))) (nd ob14a (nd ob22b (nd ob38b (nd ob70b (lf ob134f) .nil) (lf ob102c)) (nd ob54b (lf ob86b) (lf ob118e))) (nd ob30b (nd ob46b (nd ob78b (lf ob142g) .nil) (lf ob110d)) (nd ob62b (lf ob94c) (lf ob126e)))))))
noncomputable def sh22a (v144 : Bool → Obj) (toks : Nat) (b : Bool) (w : World) (os : OsState) : SharedT := ⟨tr22a (v144 b) w.params, 145, bLife, .mk [], boot_drawn, toks, os⟩
noncomputable abbrev cd22a : Code := bl "set.__init__" [(.ref 144), (.ref 143)]
noncomputable abbrev cc22a : Code := (.call (.builtin "set.__init__") ⟨[(.ref 144), (.ref 143)], []⟩)
noncomputable def o22an0v144 (b : Bool) : Obj := ⟨(.type "set"), none, (.set [].toArray 0 ⟨7, [].toArray, [].toArray, 0, !b, 0, true⟩), [].toArray⟩
noncomputable def ls22a (b : Bool) (w : World) (os : OsState) : LS := lsOf (goT (tGo tTab tp w 11 annT 1 39 (shg w os) (thT (sgT 22 1) ⟨59, 0, 60, 30⟩)))
noncomputable def IN22a (b : Bool) (w : World) : Prop := ∀ os, tGo tTab tp w 11 annT 1 39 (shg w os) (thT (sgT 22 1) ⟨59, 0, 60, 30⟩) = some ((sh22a o22an0v144 399) b w os, (lpT cd22a cc22a ⟨61, 9, 61, 33⟩ (ls22a b w os)))
theorem in22af : (∀ w, IN22a false (wa w)) ∧ ∀ w, IN22a false (wb w) := ⟨fun w os => by kernel_rfl, fun w os => by kernel_rfl⟩
theorem in22at : (∀ w, IN22a true (wc w)) ∧ ∀ w, IN22a true (wd w) := ⟨fun w os => by kernel_rfl, fun w os => by kernel_rfl⟩
theorem in22a : B4 IN22a := ⟨in22af.1, in22af.2, in22at.1, in22at.2⟩
noncomputable def ob145r22b : Obj := ⟨(.type "range_iterator"), none, (.fields [(.int 12273 0), (.int 11 0), (.int 1 0)].toArray), [].toArray⟩
noncomputable def tr22b (v144 : Obj) (P : Params) : BT := (nd (boot_o_0 P) (nd (boot_o_1 P) (nd (ob3g P) (nd (boot_o_7 P) (nd ob15b (nd ob31b (nd ob63b (lf ob127e) .nil) (lf ob95c)) (nd ob47b (nd ob79b (lf ob143r22a) .nil) (lf ob111d))) (nd ob23b (nd ob39b (nd ob71b (lf ob135f) .nil) (lf ob103c)) (nd ob55b (lf ob87b) (lf ob119e)))) (nd ob11a (nd ob19b (nd ob35b (nd ob67b (lf ob131f) .nil) (lf ob99c)) (nd ob51b (lf ob83b) (lf ob115d))) (nd ob27b (nd ob43b (nd ob75b (lf ob139g) .nil) (lf ob107d)) (nd ob59b (lf ob91b) (lf ob123e))))) (nd (boot_o_5 P) (nd (boot_o_9 P) (nd ob17b (nd ob33b (nd ob65b (lf ob129e) .nil) (lf ob97c)) (nd ob49b (nd ob81b (lf ob145r22b) .nil) (lf (ob113d P)))) (nd ob25b (nd ob41b (nd ob73b (lf ob137g) .nil) (lf ob105c)) (nd ob57b (lf ob89b) (lf ob121e)))) (nd ob13a (nd ob21b (nd ob37b (nd ob69b (lf ob133f) .nil) (lf ob101c)) (nd ob53b (lf ob85b) (lf ob117e))) (nd ob29b (nd ob45b (nd ob77b (lf ob141g) .nil) (lf ob109d)) (nd ob61b (lf ob93c) (lf ob125e)))))) (nd (boot_o_2 P) (nd (boot_o_4 P) (nd (boot_o_8 P) (nd ob16b (nd ob32b (nd ob64b (lf ob128e) .nil) (lf ob96c)) (nd ob48b (nd ob80b (lf v144) .nil) (lf ob112d))) (nd ob24b (nd ob40b (nd ob72b (lf ob136g) .nil) (lf ob104c)) (nd ob56b (lf ob88b) (lf ob120e)))) (nd ob12g (nd ob20b (nd ob36b (nd ob68b (lf (ob132f P)) .nil) (lf ob100c)) (nd ob52b (lf ob84b) (lf ob116d))) (nd ob28b (nd ob44b (nd ob76b (lf ob140g) .nil) (lf ob108d)) (nd ob60b (lf ob92c) (lf ob124e))))) (nd (boot_o_6 P) (nd (boot_o_10 P) (nd ob18b (nd ob34b (nd ob66b (lf ob130e) .nil) (lf ob98c)) (nd ob50b (lf ob82b) (lf ob114d))) (nd ob26b (nd ob42b (nd ob74b (lf ob138g) .nil) (lf ob106d)) (nd ob58b (lf ob90b) (lf ob122e)))) (nd ob14a (nd ob22b (nd ob38b (nd ob70b (lf ob134f) .nil) (lf ob102c)) (nd ob54b (lf ob86b) (lf ob118e))) (nd ob30b (nd ob46b (nd ob78b (lf ob142g) .nil) (lf ob110d)) (nd ob62b (lf ob94c) (lf ob126e)))))))
noncomputable def sh22b (v144 : Bool → Obj) (toks : Nat) (b : Bool) (w : World) (os : OsState) : SharedT := ⟨tr22b (v144 b) w.params, 146, bLife, .mk [], boot_drawn, toks, os⟩
noncomputable abbrev cd22b : Code := bl "int.__hash__" [(.int 12272 399)]
noncomputable abbrev cc22b : Code := (.call (.builtin "int.__hash__") ⟨[(.int 12272 399)], []⟩)
noncomputable def o22bn0v144 (b : Bool) : Obj := ⟨(.type "set"), none, (.set [].toArray 0 ⟨7, [].toArray, [].toArray, 0, !b, 0, true⟩), [].toArray⟩
noncomputable def ls22b (b : Bool) (w : World) (os : OsState) : LS := lsOf (goT (tGo tTab tp w 11 annT 1 34 ((sh22a o22an0v144 399) b w os) (lpT cd22a cc22a ⟨61, 9, 61, 33⟩ (ls22a b w os))))
noncomputable def IN22b (b : Bool) (w : World) : Prop := ∀ os, tGo tTab tp w 11 annT 1 34 ((sh22a o22an0v144 399) b w os) (lpT cd22a cc22a ⟨61, 9, 61, 33⟩ (ls22a b w os)) = some ((sh22b o22bn0v144 400) b w os, (lpT cd22b cc22b ⟨61, 9, 61, 33⟩ (ls22b b w os)))
theorem in22bf : (∀ w, IN22b false (wa w)) ∧ ∀ w, IN22b false (wb w) := ⟨fun w os => by kernel_rfl, fun w os => by kernel_rfl⟩
theorem in22bt : (∀ w, IN22b true (wc w)) ∧ ∀ w, IN22b true (wd w) := ⟨fun w os => by kernel_rfl, fun w os => by kernel_rfl⟩
theorem in22b : B4 IN22b := ⟨in22bf.1, in22bf.2, in22bt.1, in22bt.2⟩
noncomputable def tr22c (v144 v145 : Obj) (P : Params) : BT := (nd (boot_o_0 P) (nd (boot_o_1 P) (nd (ob3g P) (nd (boot_o_7 P) (nd ob15b (nd ob31b (nd ob63b (lf ob127e) .nil) (lf ob95c)) (nd ob47b (nd ob79b (lf ob143r22a) .nil) (lf ob111d))) (nd ob23b (nd ob39b (nd ob71b (lf ob135f) .nil) (lf ob103c)) (nd ob55b (lf ob87b) (lf ob119e)))) (nd ob11a (nd ob19b (nd ob35b (nd ob67b (lf ob131f) .nil) (lf ob99c)) (nd ob51b (lf ob83b) (lf ob115d))) (nd ob27b (nd ob43b (nd ob75b (lf ob139g) .nil) (lf ob107d)) (nd ob59b (lf ob91b) (lf ob123e))))) (nd (boot_o_5 P) (nd (boot_o_9 P) (nd ob17b (nd ob33b (nd ob65b (lf ob129e) .nil) (lf ob97c)) (nd ob49b (nd ob81b (lf v145) .nil) (lf (ob113d P)))) (nd ob25b (nd ob41b (nd ob73b (lf ob137g) .nil) (lf ob105c)) (nd ob57b (lf ob89b) (lf ob121e)))) (nd ob13a (nd ob21b (nd ob37b (nd ob69b (lf ob133f) .nil) (lf ob101c)) (nd ob53b (lf ob85b) (lf ob117e))) (nd ob29b (nd ob45b (nd ob77b (lf ob141g) .nil) (lf ob109d)) (nd ob61b (lf ob93c) (lf ob125e)))))) (nd (boot_o_2 P) (nd (boot_o_4 P) (nd (boot_o_8 P) (nd ob16b (nd ob32b (nd ob64b (lf ob128e) .nil) (lf ob96c)) (nd ob48b (nd ob80b (lf v144) .nil) (lf ob112d))) (nd ob24b (nd ob40b (nd ob72b (lf ob136g) .nil) (lf ob104c)) (nd ob56b (lf ob88b) (lf ob120e)))) (nd ob12g (nd ob20b (nd ob36b (nd ob68b (lf (ob132f P)) .nil) (lf ob100c)) (nd ob52b (lf ob84b) (lf ob116d))) (nd ob28b (nd ob44b (nd ob76b (lf ob140g) .nil) (lf ob108d)) (nd ob60b (lf ob92c) (lf ob124e))))) (nd (boot_o_6 P) (nd (boot_o_10 P) (nd ob18b (nd ob34b (nd ob66b (lf ob130e) .nil) (lf ob98c)) (nd ob50b (lf ob82b) (lf ob114d))) (nd ob26b (nd ob42b (nd ob74b (lf ob138g) .nil) (lf ob106d)) (nd ob58b (lf ob90b) (lf ob122e)))) (nd ob14a (nd ob22b (nd ob38b (nd ob70b (lf ob134f) .nil) (lf ob102c)) (nd ob54b (lf ob86b) (lf ob118e))) (nd ob30b (nd ob46b (nd ob78b (lf ob142g) .nil) (lf ob110d)) (nd ob62b (lf ob94c) (lf ob126e)))))))
noncomputable def sh22c (v144 v145 : Bool → Obj) (toks : Nat) (b : Bool) (w : World) (os : OsState) : SharedT := ⟨tr22c (v144 b) (v145 b) w.params, 146, bLife, .mk [], boot_drawn, toks, os⟩
noncomputable abbrev cd22c : Code := bl "set.update.loop" [(.ref 144), (.ref 145)]
noncomputable abbrev cc22c : Code := (bl "set.update.loop" [(.ref 144), (.ref 145)])
noncomputable def o22cn0v144 (b : Bool) : Obj := ⟨(.type "set"), none, (.set [sv 12272 399].toArray 1 ⟨7, [0].toArray, [].toArray, 0, !b, 0, true⟩), [].toArray⟩
noncomputable def o22cn0v145 (b : Bool) : Obj := ⟨(.type "range_iterator"), none, (.fields [(.int 12273 0), (.int 11 0), (.int 1 0)].toArray), [].toArray⟩
noncomputable def o22cn1v144 (b : Bool) : Obj := ⟨(.type "set"), none, (.set [sv 12272 399, sv 12273 401, sv 12274 403, sv 12275 405, sv 12276 407].toArray 6 ⟨31, [16, 17, 18, 19, 20].toArray, [].toArray, 0, !b, 1, true⟩), [].toArray⟩
noncomputable def o22cn1v145 (b : Bool) : Obj := ⟨(.type "range_iterator"), none, (.fields [(.int 12277 0), (.int 7 0), (.int 1 0)].toArray), [].toArray⟩
noncomputable def o22cn2v144 (b : Bool) : Obj := ⟨(.type "set"), none, (.set [sv 12272 399, sv 12273 401, sv 12274 403, sv 12275 405, sv 12276 407, sv 12277 409, sv 12278 411, sv 12279 413, sv 12280 415].toArray 10 ⟨31, [16, 17, 18, 19, 20, 21, 22, 23, 24].toArray, [].toArray, 0, !b, 1, true⟩), [].toArray⟩
noncomputable def o22cn2v145 (b : Bool) : Obj := ⟨(.type "range_iterator"), none, (.fields [(.int 12281 0), (.int 3 0), (.int 1 0)].toArray), [].toArray⟩
noncomputable def o22cn3v144 (b : Bool) : Obj := ⟨(.type "set"), none, (.set [sv 12272 399, sv 12273 401, sv 12274 403, sv 12275 405, sv 12276 407, sv 12277 409, sv 12278 411, sv 12279 413, sv 12280 415, sv 12281 417, sv 12282 419, sv 12283 421].toArray 13 ⟨31, [16, 17, 18, 19, 20, 21, 22, 23, 24, 25, 26, 27].toArray, [].toArray, 0, !b, 1, true⟩), [].toArray⟩
noncomputable def o22cn3v145 (b : Bool) : Obj := ⟨(.type "range_iterator"), none, (.fields [(.int 12284 0), (.int 0 0), (.int 1 0)].toArray), [].toArray⟩
noncomputable def ls22c (b : Bool) (w : World) (os : OsState) : LS := lsOf (goT (tGo tTab tp w 11 annT 1 7 ((sh22b o22bn0v144 400) b w os) (lpT cd22b cc22b ⟨61, 9, 61, 33⟩ (ls22b b w os))))
noncomputable def IN22c (b : Bool) (w : World) : Prop := ∀ os, tGo tTab tp w 11 annT 1 7 ((sh22b o22bn0v144 400) b w os) (lpT cd22b cc22b ⟨61, 9, 61, 33⟩ (ls22b b w os)) = some ((sh22c o22cn0v144 o22cn0v145 401) b w os, (lpT cd22c cc22c ⟨61, 9, 61, 33⟩ (ls22c b w os)))
theorem in22cf : (∀ w, IN22c false (wa w)) ∧ ∀ w, IN22c false (wb w) := ⟨fun w os => by kernel_rfl, fun w os => by kernel_rfl⟩
theorem in22ct : (∀ w, IN22c true (wc w)) ∧ ∀ w, IN22c true (wd w) := ⟨fun w os => by kernel_rfl, fun w os => by kernel_rfl⟩
theorem in22c : B4 IN22c := ⟨in22cf.1, in22cf.2, in22ct.1, in22ct.2⟩
theorem tn22cn1 : B4 (Turn (sh22c o22cn0v144 o22cn0v145 401) cd22c ⟨61, 9, 61, 33⟩ 94 (sh22c o22cn1v144 o22cn1v145 409)) := ⟨fun w os x => by kernel_rfl, fun w os x => by kernel_rfl, fun w os x => by kernel_rfl, fun w os x => by kernel_rfl⟩
theorem tn22cn2 : B4 (Turn (sh22c o22cn1v144 o22cn1v145 409) cd22c ⟨61, 9, 61, 33⟩ 92 (sh22c o22cn2v144 o22cn2v145 417)) := ⟨fun w os x => by kernel_rfl, fun w os x => by kernel_rfl, fun w os x => by kernel_rfl, fun w os x => by kernel_rfl⟩
theorem tn22cn3 : B4 (Turn (sh22c o22cn2v144 o22cn2v145 417) cd22c ⟨61, 9, 61, 33⟩ 69 (sh22c o22cn3v144 o22cn3v145 423)) := ⟨fun w os x => by kernel_rfl, fun w os x => by kernel_rfl, fun w os x => by kernel_rfl, fun w os x => by kernel_rfl⟩
theorem end22 : B4 fun b w => ∀ os, tRun tTab tp w 11 annT 1 26 ((sh22c o22cn3v144 o22cn3v145 423) b w os) (lpT cd22c cc22c ⟨61, 9, 61, 33⟩ (ls22c b w os)) = some (.next, shh w os, cdT, ⟨61, 0, 61, 6⟩) := ⟨fun w os => by kernel_rfl, fun w os => by kernel_rfl, fun w os => by kernel_rfl, fun w os => by kernel_rfl⟩
theorem pc22 (w : World) (os : OsState) : sgR w 361 (shg w os).abs (thT (sgT 22 1) ⟨59, 0, 60, 30⟩) = some (.next, (shh w os).abs, cdT, ⟨61, 0, 61, 6⟩) := by
  have e0 := (end22).imp fun b w h os => run_T (h os)
  have e1 := ((tn22cn3).and e0).imp fun b w h os => seg_go (N := 26) (go_T (h.1 os _)) (h.2 os)
  have e2 := ((tn22cn2).and e1).imp fun b w h os => seg_go (N := 95) (go_T (h.1 os _)) (h.2 os)
  have e3 := ((tn22cn1).and e2).imp fun b w h os => seg_go (N := 187) (go_T (h.1 os _)) (h.2 os)
  have e4 := ((in22c).and e3).imp fun b w h os => seg_go (N := 281) (go_T (h.1 os)) (h.2 os)
  have e5 := ((in22b).and e4).imp fun b w h os => seg_go (N := 288) (go_T (h.1 os)) (h.2 os)
  have e6 := ((in22a).and e5).imp fun b w h os => seg_go (N := 322) (go_T (h.1 os)) (h.2 os)
  exact (e6).all w os
end Mine
end
end
section
open PySem PySem.W PyProof.Rows
section
namespace Mine
noncomputable def ob155r24a : Obj := ⟨(.type "list"), none, (.seq [(.int 832 431), (.int 833 432), (.int 8206 433), (.int 8207 434)].toArray 0), [].toArray⟩
noncomputable def ob156r24a : Obj := ⟨(.type "range"), none, (.fields [(.int 8234 435), (.int 8239 436), (.int 1 437)].toArray), [].toArray⟩
noncomputable def tr24a (v157 v158 : Obj) (P : Params) : BT := (nd (boot_o_0 P) (nd (boot_o_1 P) (nd (ob3i P) (nd (boot_o_7 P) (nd ob15b (nd ob31b (nd ob63b (lf ob127e) .nil) (lf ob95c)) (nd ob47b (nd ob79b (lf ob143h) .nil) (lf ob111d))) (nd ob23b (nd ob39b (nd ob71b (lf ob135f) .nil) (lf ob103c)) (nd ob55b (nd ob87b (lf ob151i) .nil) (lf ob119e)))) (nd ob11a (nd ob19b (nd ob35b (nd ob67b (lf ob131f) .nil) (lf ob99c)) (nd ob51b (nd ob83b (lf ob147h) .nil) (lf ob115d))) (nd ob27b (nd ob43b (nd ob75b (lf ob139g) .nil) (lf ob107d)) (nd ob59b (nd ob91b (lf ob155r24a) .nil) (lf ob123e))))) (nd (boot_o_5 P) (nd (boot_o_9 P) (nd ob17b (nd ob33b (nd ob65b (lf ob129e) .nil) (lf ob97c)) (nd ob49b (nd ob81b (lf ob145h) .nil) (lf (ob113d P)))) (nd ob25b (nd ob41b (nd ob73b (lf ob137g) .nil) (lf ob105c)) (nd ob57b (nd ob89b (lf ob153i) .nil) (lf ob121e)))) (nd ob13a (nd ob21b (nd ob37b (nd ob69b (lf ob133f) .nil) (lf ob101c)) (nd ob53b (nd ob85b (lf ob149i) .nil) (lf ob117e))) (nd ob29b (nd ob45b (nd ob77b (lf ob141g) .nil) (lf ob109d)) (nd ob61b (nd ob93c (lf v157) .nil) (lf ob125e)))))) (nd (boot_o_2 P) (nd (boot_o_4 P) (nd (boot_o_8 P) (nd ob16b (nd ob32b (nd ob64b (lf ob128e) .nil) (lf ob96c)) (nd ob48b (nd ob80b (lf (ob144h P)) .nil) (lf ob112d))) (nd ob24b (nd ob40b (nd ob72b (lf ob136g) .nil) (lf ob104c)) (nd ob56b (nd ob88b (lf ob152i) .nil) (lf ob120e)))) (nd ob12i (nd ob20b (nd ob36b (nd ob68b (lf (ob132f P)) .nil) (lf ob100c)) (nd ob52b (nd ob84b (lf ob148i) .nil) (lf ob116d))) (nd ob28b (nd ob44b (nd ob76b (lf ob140g) .nil) (lf ob108d)) (nd ob60b (nd ob92c (lf ob156r24a) .nil) (lf ob124e))))) (nd (boot_o_6 P) (nd (boot_o_10 P) (nd ob18b (nd ob34b (nd ob66b (lf ob130e) .nil) (lf ob98c)) (nd ob50b (nd ob82b (lf ob146h) .nil) (lf ob114d))) (nd ob26b (nd ob42b (nd ob74b (lf ob138g) .nil) (lf ob106d)) (nd ob58b (nd ob90b (lf ob154i) .nil) (lf ob122e)))) (nd ob14a (nd ob22b (nd ob38b (nd ob70b (lf ob134f) .nil) (lf ob102c)) (nd ob54b (nd ob86b (lf ob150i) .nil) (lf ob118e))) (nd ob30b (nd ob46b (nd ob78b (lf ob142g) .nil) (lf ob110d)) (nd ob62b (nd ob94c (lf v158) .nil) (lf ob126e)))))))
noncomputable def sh24a (v157 v158 : Bool → Obj) (toks : Nat) (b : Bool) (w : World) (os : OsState) : SharedT := ⟨tr24a (v157 b) (v158 b) w.params, 159, bLife, .mk [], boot_drawn, toks, os⟩
noncomputable abbrev cd24a : Code := bl "list.extend.loop" [(.ref 157), (.ref 158), .none]
noncomputable abbrev cc24a : Code := (bl "list.extend.loop" [(.ref 157), (.ref 158), .none])
noncomputable def o24an0v157 (b : Bool) : Obj := ⟨(.type "list"), none, (.seq [(.int 8234 440)].toArray 3), [].toArray⟩
noncomputable def o24an0v158 (b : Bool) : Obj := ⟨(.type "range_iterator"), none, (.fields [(.int 8235 0), (.int 4 0), (.int 1 0)].toArray), [].toArray⟩
noncomputable def o24an1v157 (b : Bool) : Obj := ⟨(.type "list"), none, (.seq [(.int 8234 440), (.int 8235 441), (.int 8236 442), (.int 8237 443), (.int 8238 444)].toArray 7), [].toArray⟩
noncomputable def o24an1v158 (b : Bool) : Obj := ⟨(.type "range_iterator"), none, (.fields [(.int 8239 0), (.int 0 0), (.int 1 0)].toArray), [].toArray⟩
noncomputable def ls24a (b : Bool) (w : World) (os : OsState) : LS := lsOf (goT (tGo tTab tp w 11 annT 1 106 (shi w os) (thT (sgT 24 1) ⟨62, 0, 63, 30⟩)))
noncomputable def IN24a (b : Bool) (w : World) : Prop := ∀ os, tGo tTab tp w 11 annT 1 106 (shi w os) (thT (sgT 24 1) ⟨62, 0, 63, 30⟩) = some ((sh24a o24an0v157 o24an0v158 441) b w os, (lpT cd24a cc24a ⟨64, 38, 64, 61⟩ (ls24a b w os)))
theorem in24af : (∀ w, IN24a false (wa w)) ∧ ∀ w, IN24a false (wb w) := ⟨fun w os => by kernel_rfl, fun w os => by kernel_rfl⟩
theorem in24at : (∀ w, IN24a true (wc w)) ∧ ∀ w, IN24a true (wd w) := ⟨fun w os => by kernel_rfl, fun w os => by kernel_rfl⟩
theorem in24a : B4 IN24a := ⟨in24af.1, in24af.2, in24at.1, in24at.2⟩
theorem tn24an1 : B4 (Turn (sh24a o24an0v157 o24an0v158 441) cd24a ⟨64, 38, 64, 61⟩ 68 (sh24a o24an1v157 o24an1v158 445)) := .of fun b w os x => by kernel_rfl
noncomputable def ob157r24b : Obj := ⟨(.type "list"), none, (.seq [(.int 8234 440), (.int 8235 441), (.int 8236 442), (.int 8237 443), (.int 8238 444)].toArray 7), [].toArray⟩
noncomputable def ob158r24b : Obj := ⟨(.type "range_iterator"), none, (.fields [(.int 8239 0), (.int 0 0), (.int 1 0)].toArray), [].toArray⟩
noncomputable def ob159r24b : Obj := ⟨(.type "tuple"), none, (.seq [].toArray 0), [].toArray⟩
noncomputable def ob160r24b : Obj := ⟨(.type "StopIteration"), none, (.fields [(.ref 159), .none, .none, .none, (.bool false), .none].toArray), [].toArray⟩
noncomputable def ob161r24b : Obj := ⟨(.type "list"), none, (.seq [(.int 832 431), (.int 833 432), (.int 8206 433), (.int 8207 434), (.int 8234 440), (.int 8235 441), (.int 8236 442), (.int 8237 443), (.int 8238 444)].toArray 0), [].toArray⟩
noncomputable def ob162r24b : Obj := ⟨(.type "range"), none, (.fields [(.int 8298 445), (.int 8304 446), (.int 1 447)].toArray), [].toArray⟩
noncomputable def tr24b (v163 v164 : Obj) (P : Params) : BT := (nd (boot_o_0 P) (nd (boot_o_1 P) (nd (ob3i P) (nd (boot_o_7 P) (nd ob15b (nd ob31b (nd ob63b (lf ob127e) .nil) (nd ob95c (lf ob159r24b) .nil)) (nd ob47b (nd ob79b (lf ob143h) .nil) (lf ob111d))) (nd ob23b (nd ob39b (nd ob71b (lf ob135f) .nil) (lf ob103c)) (nd ob55b (nd ob87b (lf ob151i) .nil) (lf ob119e)))) (nd ob11a (nd ob19b (nd ob35b (nd ob67b (lf ob131f) .nil) (nd ob99c (lf v163) .nil)) (nd ob51b (nd ob83b (lf ob147h) .nil) (lf ob115d))) (nd ob27b (nd ob43b (nd ob75b (lf ob139g) .nil) (lf ob107d)) (nd ob59b (nd ob91b (lf ob155r24a) .nil) (lf ob123e))))) (nd (boot_o_5 P) (nd (boot_o_9 P) (nd ob17b (nd ob33b (nd ob65b (lf ob129e) .nil) (nd ob97c (lf ob161r24b) .nil)) (nd ob49b (nd ob81b (lf ob145h) .nil) (lf (ob113d P)))) (nd ob25b (nd ob41b (nd ob73b (lf ob137g) .nil) (lf ob105c)) (nd ob57b (nd ob89b (lf ob153i) .nil) (lf ob121e)))) (nd ob13a (nd ob21b (nd ob37b (nd ob69b (lf ob133f) .nil) (lf ob101c)) (nd ob53b (nd ob85b (lf ob149i) .nil) (lf ob117e))) (nd ob29b (nd ob45b (nd ob77b (lf ob141g) .nil) (lf ob109d)) (nd ob61b (nd ob93c (lf ob157r24b) .nil) (lf ob125e)))))) (nd (boot_o_2 P) (nd (boot_o_4 P) (nd (boot_o_8 P) (nd ob16b (nd ob32b (nd ob64b (lf ob128e) .nil) (nd ob96c (lf ob160r24b) .nil)) (nd ob48b (nd ob80b (lf (ob144h P)) .nil) (lf ob112d))) (nd ob24b (nd ob40b (nd ob72b (lf ob136g) .nil) (lf ob104c)) (nd ob56b (nd ob88b (lf ob152i) .nil) (lf ob120e)))) (nd ob12i (nd ob20b (nd ob36b (nd ob68b (lf (ob132f P)) .nil) (nd ob100c (lf v164) .nil)) (nd ob52b (nd ob84b (lf ob148i) .nil) (lf ob116d))) (nd ob28b (nd ob44b (nd ob76b (lf ob140g) .nil) (lf ob108d)) (nd ob60b (nd ob92c (lf ob156r24a) .nil) (lf ob124e))))) (nd (boot_o_6 P) (nd (boot_o_10 P) (nd ob18b (nd ob34b (nd ob66b (lf ob130e) .nil) (nd ob98c (lf ob162r24b) .nil)) (nd ob50b (nd ob82b (lf ob146h) .nil) (lf ob114d))) (nd ob26b (nd ob42b (nd ob74b (lf ob138g) .nil) (lf ob106d)) (nd ob58b (nd ob90b (lf ob154i) .nil) (lf ob122e)))) (nd ob14a (nd ob22b (nd ob38b (nd ob70b (lf ob134f) .nil) (lf ob102c)) (nd ob54b (nd ob86b (lf ob150i) .nil) (lf ob118e))) (nd ob30b (nd ob46b (nd ob78b (lf ob142g) .nil) (lf ob110d)) (nd ob62b (nd ob94c (lf ob158r24b) .nil) (lf ob126e)))))))
noncomputable def sh24b (v163 v164 : Bool → Obj) (toks : Nat) (b : Bool) (w : World) (os : OsState) : SharedT := ⟨tr24b (v163 b) (v164 b) w.params, 165, bLife, .mk [], boot_drawn, toks, os⟩
noncomputable abbrev cd24b : Code := bl "list.extend.loop" [(.ref 163), (.ref 164), .none]
noncomputable abbrev cc24b : Code := (bl "list.extend.loop" [(.ref 163), (.ref 164), .none])
noncomputable def o24bn0v163 (b : Bool) : Obj := ⟨(.type "list"), none, (.seq [(.int 8298 450)].toArray 3), [].toArray⟩
noncomputable def o24bn0v164 (b : Bool) : Obj := ⟨(.type "range_iterator"), none, (.fields [(.int 8299 0), (.int 5 0), (.int 1 0)].toArray), [].toArray⟩
noncomputable def o24bn1v163 (b : Bool) : Obj := ⟨(.type "list"), none, (.seq [(.int 8298 450), (.int 8299 451), (.int 8300 452), (.int 8301 453), (.int 8302 454), (.int 8303 455)].toArray 8), [].toArray⟩
noncomputable def o24bn1v164 (b : Bool) : Obj := ⟨(.type "range_iterator"), none, (.fields [(.int 8304 0), (.int 0 0), (.int 1 0)].toArray), [].toArray⟩
noncomputable def ls24b (b : Bool) (w : World) (os : OsState) : LS := lsOf (goT (tGo tTab tp w 11 annT 1 127 ((sh24a o24an1v157 o24an1v158 445) b w os) (lpT cd24a cc24a ⟨64, 38, 64, 61⟩ (ls24a b w os))))
noncomputable def IN24b (b : Bool) (w : World) : Prop := ∀ os, tGo tTab tp w 11 annT 1 127 ((sh24a o24an1v157 o24an1v158 445) b w os) (lpT cd24a cc24a ⟨64, 38, 64, 61⟩ (ls24a b w os)) = some ((sh24b o24bn0v163 o24bn0v164 451) b w os, (lpT cd24b cc24b ⟨64, 64, 64, 87⟩ (ls24b b w os)))
theorem in24bf : (∀ w, IN24b false (wa w)) ∧ ∀ w, IN24b false (wb w) := ⟨fun w os => by kernel_rfl, fun w os => by kernel_rfl⟩
theorem in24bt : (∀ w, IN24b true (wc w)) ∧ ∀ w, IN24b true (wd w) := ⟨fun w os => by kernel_rfl, fun w os => by kernel_rfl⟩
theorem in24b : B4 IN24b := ⟨in24bf.1, in24bf.2, in24bt.1, in24bt.2⟩
theorem tn24bn1 : B4 (Turn (sh24b o24bn0v163 o24bn0v164 451) cd24b ⟨64, 64, 64, 87⟩ 85 (sh24b o24bn1v163 o24bn1v164 456)) := .of fun b w os x => by kernel_rfl
noncomputable def ob163r24c : Obj := ⟨(.type "list"), none, (.seq [(.int 8298 450), (.int 8299 451), (.int 8300 452), (.int 8301 453), (.int 8302 454), (.int 8303 455)].toArray 8), [].toArray⟩
noncomputable def ob164r24c : Obj := ⟨(.type "range_iterator"), none, (.fields [(.int 8304 0), (.int 0 0), (.int 1 0)].toArray), [].toArray⟩
noncomputable def ob165r24c : Obj := ⟨(.type "tuple"), none, (.seq [].toArray 0), [].toArray⟩
noncomputable def ob166r24c : Obj := ⟨(.type "StopIteration"), none, (.fields [(.ref 165), .none, .none, .none, (.bool false), .none].toArray), [].toArray⟩
noncomputable def ob167r24c : Obj := ⟨(.type "list"), none, (.seq [(.int 832 431), (.int 833 432), (.int 8206 433), (.int 8207 434), (.int 8234 440), (.int 8235 441), (.int 8236 442), (.int 8237 443), (.int 8238 444), (.int 8298 450), (.int 8299 451), (.int 8300 452), (.int 8301 453), (.int 8302 454), (.int 8303 455)].toArray 0), [].toArray⟩
noncomputable def tr24c (v168 : Obj) (P : Params) : BT := (nd (boot_o_0 P) (nd (boot_o_1 P) (nd (ob3i P) (nd (boot_o_7 P) (nd ob15b (nd ob31b (nd ob63b (lf ob127e) .nil) (nd ob95c (lf ob159r24b) .nil)) (nd ob47b (nd ob79b (lf ob143h) .nil) (lf ob111d))) (nd ob23b (nd ob39b (nd ob71b (lf ob135f) .nil) (nd ob103c (lf ob167r24c) .nil)) (nd ob55b (nd ob87b (lf ob151i) .nil) (lf ob119e)))) (nd ob11a (nd ob19b (nd ob35b (nd ob67b (lf ob131f) .nil) (nd ob99c (lf ob163r24c) .nil)) (nd ob51b (nd ob83b (lf ob147h) .nil) (lf ob115d))) (nd ob27b (nd ob43b (nd ob75b (lf ob139g) .nil) (lf ob107d)) (nd ob59b (nd ob91b (lf ob155r24a) .nil) (lf ob123e))))) (nd (boot_o_5 P) (nd (boot_o_9 P) (nd ob17b (nd ob33b (nd ob65b (lf ob129e) .nil) (nd ob97c (lf ob161r24b) .nil)) (nd ob49b (nd ob81b (lf ob145h) .nil) (lf (ob113d P)))) (nd ob25b (nd ob41b (nd ob73b (lf ob137g) .nil) (lf ob105c)) (nd ob57b (nd ob89b (lf ob153i) .nil) (lf ob121e)))) (nd ob13a (nd ob21b (nd ob37b (nd ob69b (lf ob133f) .nil) (nd ob101c (lf ob165r24c) .nil)) (nd ob53b (nd ob85b (lf ob149i) .nil) (lf ob117e))) (nd ob29b (nd ob45b (nd ob77b (lf ob141g) .nil) (lf ob109d)) (nd ob61b (nd ob93c (lf ob157r24b) .nil) (lf ob125e)))))) (nd (boot_o_2 P) (nd (boot_o_4 P) (nd (boot_o_8 P) (nd ob16b (nd ob32b (nd ob64b (lf ob128e) .nil) (nd ob96c (lf ob160r24b) .nil)) (nd ob48b (nd ob80b (lf (ob144h P)) .nil) (lf ob112d))) (nd ob24b (nd ob40b (nd ob72b (lf ob136g) .nil) (nd ob104c (lf v168) .nil)) (nd ob56b (nd ob88b (lf ob152i) .nil) (lf ob120e)))) (nd ob12i (nd ob20b (nd ob36b (nd ob68b (lf (ob132f P)) .nil) (nd ob100c (lf ob164r24c) .nil)) (nd ob52b (nd ob84b (lf ob148i) .nil) (lf ob116d))) (nd ob28b (nd ob44b (nd ob76b (lf ob140g) .nil) (lf ob108d)) (nd ob60b (nd ob92c (lf ob156r24a) .nil) (lf ob124e))))) (nd (boot_o_6 P) (nd (boot_o_10 P) (nd ob18b (nd ob34b (nd ob66b (lf ob130e) .nil) (nd ob98c (lf ob162r24b) .nil)) (nd ob50b (nd ob82b (lf ob146h) .nil) (lf ob114d))) (nd ob26b (nd ob42b (nd ob74b (lf ob138g) .nil) (lf ob106d)) (nd ob58b (nd ob90b (lf ob154i) .nil) (lf ob122e)))) (nd ob14a (nd ob22b (nd ob38b (nd ob70b (lf ob134f) .nil) (nd ob102c (lf ob166r24c) .nil)) (nd ob54b (nd ob86b (lf ob150i) .nil) (lf ob118e))) (nd ob30b (nd ob46b (nd ob78b (lf ob142g) .nil) (lf ob110d)) (nd ob62b (nd ob94c (lf ob158r24b) .nil) (lf ob126e)))))))
noncomputable def sh24c (v168 : Bool → Obj) (toks : Nat) (b : Bool) (w : World) (os : OsState) : SharedT := ⟨tr24c (v168 b) w.params, 169, bLife, .mk [], boot_drawn, toks, os⟩
noncomputable abbrev cd24c : Code := bl "set.__init__" [(.ref 168), (.ref 167)]
noncomputable abbrev cc24c : Code := (.call (.builtin "set.__init__") ⟨[(.ref 168), (.ref 167)], []⟩)
noncomputable def o24cn0v168 (b : Bool) : Obj := ⟨(.type "set"), none, (.set [].toArray 0 ⟨7, [].toArray, [].toArray, 0, !b, 0, true⟩), [].toArray⟩
noncomputable def ls24c (b : Bool) (w : World) (os : OsState) : LS := lsOf (goT (tGo tTab tp w 11 annT 1 44 ((sh24b o24bn1v163 o24bn1v164 456) b w os) (lpT cd24b cc24b ⟨64, 64, 64, 87⟩ (ls24b b w os))))
noncomputable def IN24c (b : Bool) (w : World) : Prop := ∀ os, tGo tTab tp w 11 annT 1 44 ((sh24b o24bn1v163 o24bn1v164 456) b w os) (lpT cd24b cc24b ⟨64, 64, 64, 87⟩ (ls24b b w os)) = some ((sh24c o24cn0v168 456) b w os, (lpT cd24c cc24c ⟨64, 9, 64, 88⟩ (ls24c b w os)))
theorem in24cf : (∀ w, IN24c false (wa w)) ∧ ∀ w, IN24c false (wb w) := ⟨fun w os => by kernel_rfl, fun w os => by kernel_rfl⟩
theorem in24ct : (∀ w, IN24c true (wc w)) ∧ ∀ w, IN24c true (wd w) := ⟨fun w os => by kernel_rfl, fun w os => by kernel_rfl⟩
theorem in24c : B4 IN24c := ⟨in24cf.1, in24cf.2, in24ct.1, in24ct.2⟩
noncomputable def ob169r24d : Obj := ⟨(.type "list_iterator"), none, (.fields [(.ref 167), (.int 1 0)].toArray), [].toArray⟩
noncomputable def tr24d (v168 : Obj) (P : Params) : BT := (nd (boot_o_0 P) (nd (boot_o_1 P) (nd (ob3i P) (nd (boot_o_7 P) (nd ob15b (nd ob31b (nd ob63b (lf ob127e) .nil) (nd ob95c (lf ob159r24b) .nil)) (nd ob47b (nd ob79b (lf ob143h) .nil) (lf ob111d))) (nd ob23b (nd ob39b (nd ob71b (lf ob135f) .nil) (nd ob103c (lf ob167r24c) .nil)) (nd ob55b (nd ob87b (lf ob151i) .nil) (lf ob119e)))) (nd ob11a (nd ob19b (nd ob35b (nd ob67b (lf ob131f) .nil) (nd ob99c (lf ob163r24c) .nil)) (nd ob51b (nd ob83b (lf ob147h) .nil) (lf ob115d))) (nd ob27b (nd ob43b (nd ob75b (lf ob139g) .nil) (lf ob107d)) (nd ob59b (nd ob91b (lf ob155r24a) .nil) (lf ob123e))))) (nd (boot_o_5 P) (nd (boot_o_9 P) (nd ob17b (nd ob33b (nd ob65b (lf ob129e) .nil) (nd ob97c (lf ob161r24b) .nil)) (nd ob49b (nd ob81b (lf ob145h) .nil) (lf (ob113d P)))) (nd ob25b (nd ob41b (nd ob73b (lf ob137g) .nil) (nd ob105c (lf ob169r24d) .nil)) (nd ob57b (nd ob89b (lf ob153i) .nil) (lf ob121e)))) (nd ob13a (nd ob21b (nd ob37b (nd ob69b (lf ob133f) .nil) (nd ob101c (lf ob165r24c) .nil)) (nd ob53b (nd ob85b (lf ob149i) .nil) (lf ob117e))) (nd ob29b (nd ob45b (nd ob77b (lf ob141g) .nil) (lf ob109d)) (nd ob61b (nd ob93c (lf ob157r24b) .nil) (lf ob125e)))))) (nd (boot_o_2 P) (nd (boot_o_4 P) (nd (boot_o_8 P) (nd ob16b (nd ob32b (nd ob64b (lf ob128e) .nil) (nd ob96c (lf ob160r24b) .nil)) (nd ob48b (nd ob80b (lf (ob144h P)) .nil) (lf ob112d))) (nd ob24b (nd ob40b (nd ob72b (lf ob136g) .nil) (nd ob104c (lf v168) .nil)) (nd ob56b (nd ob88b (lf ob152i) .nil) (lf ob120e)))) (nd ob12i (nd ob20b (nd ob36b (nd ob68b (lf (ob132f P)) .nil) (nd ob100c (lf ob164r24c) .nil)) (nd ob52b (nd ob84b (lf ob148i) .nil) (lf ob116d))) (nd ob28b (nd ob44b (nd ob76b (lf ob140g) .nil) (lf ob108d)) (nd ob60b (nd ob92c (lf ob156r24a) .nil) (lf ob124e))))) (nd (boot_o_6 P) (nd (boot_o_10 P) (nd ob18b (nd ob34b (nd ob66b (lf ob130e) .nil) (nd ob98c (lf ob162r24b) .nil)) (nd ob50b (nd ob82b (lf ob146h) .nil) (lf ob114d))) (nd ob26b (nd ob42b (nd ob74b (lf ob138g) .nil) (lf ob106d)) (nd ob58b (nd ob90b (lf ob154i) .nil) (lf ob122e)))) (nd ob14a (nd ob22b (nd ob38b (nd ob70b (lf ob134f) .nil) (nd ob102c (lf ob166r24c) .nil)) (nd ob54b (nd ob86b (lf ob150i) .nil) (lf ob118e))) (nd ob30b (nd ob46b (nd ob78b (lf ob142g) .nil) (lf ob110d)) (nd ob62b (nd ob94c (lf ob158r24b) .nil) (lf ob126e)))))))
noncomputable def sh24d (v168 : Bool → Obj) (toks : Nat) (b : Bool) (w : World) (os : OsState) : SharedT := ⟨tr24d (v168 b) w.params, 170, bLife, .mk [], boot_drawn, toks, os⟩
noncomputable abbrev cd24d : Code := bl "int.__hash__" [(.int 832 431)]
noncomputable abbrev cc24d : Code := (.call (.builtin "int.__hash__") ⟨[(.int 832 431)], []⟩)
noncomputable def o24dn0v168 (b : Bool) : Obj := ⟨(.type "set"), none, (.set [].toArray 0 ⟨7, [].toArray, [].toArray, 0, !b, 0, true⟩), [].toArray⟩
noncomputable def ls24d (b : Bool) (w : World) (os : OsState) : LS := lsOf (goT (tGo tTab tp w 11 annT 1 28 ((sh24c o24cn0v168 456) b w os) (lpT cd24c cc24c ⟨64, 9, 64, 88⟩ (ls24c b w os))))
noncomputable def IN24d (b : Bool) (w : World) : Prop := ∀ os, tGo tTab tp w 11 annT 1 28 ((sh24c o24cn0v168 456) b w os) (lpT cd24c cc24c ⟨64, 9, 64, 88⟩ (ls24c b w os)) = some ((sh24d o24dn0v168 456) b w os, (lpT cd24d cc24d ⟨64, 9, 64, 88⟩ (ls24d b w os)))
theorem in24df : (∀ w, IN24d false (wa w)) ∧ ∀ w, IN24d false (wb w) := ⟨fun w os => by kernel_rfl, fun w os => by kernel_rfl⟩
theorem in24dt : (∀ w, IN24d true (wc w)) ∧ ∀ w, IN24d true (wd w) := ⟨fun w os => by kernel_rfl, fun w os => by kernel_rfl⟩
theorem in24d : B4 IN24d := ⟨in24df.1, in24df.2, in24dt.1, in24dt.2⟩
noncomputable def tr24e (v168 v169 : Obj) (P : Params) : BT := (nd (boot_o_0 P) (nd (boot_o_1 P) (nd (ob3i P) (nd (boot_o_7 P) (nd ob15b (nd ob31b (nd ob63b (lf ob127e) .nil) (nd ob95c (lf ob159r24b) .nil)) (nd ob47b (nd ob79b (lf ob143h) .nil) (lf ob111d))) (nd ob23b (nd ob39b (nd ob71b (lf ob135f) .nil) (nd ob103c (lf ob167r24c) .nil)) (nd ob55b (nd ob87b (lf ob151i) .nil) (lf ob119e)))) (nd ob11a (nd ob19b (nd ob35b (nd ob67b (lf ob131f) .nil) (nd ob99c (lf ob163r24c) .nil)) (nd ob51b (nd ob83b (lf ob147h) .nil) (lf ob115d))) (nd ob27b (nd ob43b (nd ob75b (lf ob139g) .nil) (lf ob107d)) (nd ob59b (nd ob91b (lf ob155r24a) .nil) (lf ob123e))))) (nd (boot_o_5 P) (nd (boot_o_9 P) (nd ob17b (nd ob33b (nd ob65b (lf ob129e) .nil) (nd ob97c (lf ob161r24b) .nil)) (nd ob49b (nd ob81b (lf ob145h) .nil) (lf (ob113d P)))) (nd ob25b (nd ob41b (nd ob73b (lf ob137g) .nil) (nd ob105c (lf v169) .nil)) (nd ob57b (nd ob89b (lf ob153i) .nil) (lf ob121e)))) (nd ob13a (nd ob21b (nd ob37b (nd ob69b (lf ob133f) .nil) (nd ob101c (lf ob165r24c) .nil)) (nd ob53b (nd ob85b (lf ob149i) .nil) (lf ob117e))) (nd ob29b (nd ob45b (nd ob77b (lf ob141g) .nil) (lf ob109d)) (nd ob61b (nd ob93c (lf ob157r24b) .nil) (lf ob125e)))))) (nd (boot_o_2 P) (nd (boot_o_4 P) (nd (boot_o_8 P) (nd ob16b (nd ob32b (nd ob64b (lf ob128e) .nil) (nd ob96c (lf ob160r24b) .nil)) (nd ob48b (nd ob80b (lf (ob144h P)) .nil) (lf ob112d))) (nd ob24b (nd ob40b (nd ob72b (lf ob136g) .nil) (nd ob104c (lf v168) .nil)) (nd ob56b (nd ob88b (lf ob152i) .nil) (lf ob120e)))) (nd ob12i (nd ob20b (nd ob36b (nd ob68b (lf (ob132f P)) .nil) (nd ob100c (lf ob164r24c) .nil)) (nd ob52b (nd ob84b (lf ob148i) .nil) (lf ob116d))) (nd ob28b (nd ob44b (nd ob76b (lf ob140g) .nil) (lf ob108d)) (nd ob60b (nd ob92c (lf ob156r24a) .nil) (lf ob124e))))) (nd (boot_o_6 P) (nd (boot_o_10 P) (nd ob18b (nd ob34b (nd ob66b (lf ob130e) .nil) (nd ob98c (lf ob162r24b) .nil)) (nd ob50b (nd ob82b (lf ob146h) .nil) (lf ob114d))) (nd ob26b (nd ob42b (nd ob74b (lf ob138g) .nil) (lf ob106d)) (nd ob58b (nd ob90b (lf ob154i) .nil) (lf ob122e)))) (nd ob14a (nd ob22b (nd ob38b (nd ob70b (lf ob134f) .nil) (nd ob102c (lf ob166r24c) .nil)) (nd ob54b (nd ob86b (lf ob150i) .nil) (lf ob118e))) (nd ob30b (nd ob46b (nd ob78b (lf ob142g) .nil) (lf ob110d)) (nd ob62b (nd ob94c (lf ob158r24b) .nil) (lf ob126e)))))))
noncomputable def sh24e (v168 v169 : Bool → Obj) (toks : Nat) (b : Bool) (w : World) (os : OsState) : SharedT := ⟨tr24e (v168 b) (v169 b) w.params, 170, bLife, .mk [], boot_drawn, toks, os⟩
noncomputable abbrev cd24e : Code := bl "set.update.loop" [(.ref 168), (.ref 169)]
noncomputable abbrev cc24e : Code := (bl "set.update.loop" [(.ref 168), (.ref 169)])
noncomputable def o24en0v168 (b : Bool) : Obj := ⟨(.type "set"), none, (.set [sv 832 431].toArray 1 ⟨7, [0].toArray, [].toArray, 0, !b, 0, true⟩), [].toArray⟩
noncomputable def o24en0v169 (b : Bool) : Obj := ⟨(.type "list_iterator"), none, (.fields [(.ref 167), (.int 1 0)].toArray), [].toArray⟩
noncomputable def o24en1v168 (b : Bool) : Obj := ⟨(.type "set"), none, (.set [sv 832 431, sv 833 432, sv 8234 440, sv 8206 433, sv 8207 434].toArray 6 ⟨31, [0, 1, 10, 14, 15].toArray, [].toArray, 0, !b, 1, true⟩), [].toArray⟩
noncomputable def o24en1v169 (b : Bool) : Obj := ⟨(.type "list_iterator"), none, (.fields [(.ref 167), (.int 5 0)].toArray), [].toArray⟩
noncomputable def o24en2v168 (b : Bool) : Obj := ⟨(.type "set"), none, (.set [sv 832 431, sv 833 432, sv 8234 440, sv 8235 441, sv 8236 442, sv 8237 443, sv 8206 433, sv 8207 434, sv 8238 444].toArray 10 ⟨31, [0, 1, 10, 11, 12, 13, 14, 15, 16].toArray, [].toArray, 0, !b, 1, true⟩), [].toArray⟩
noncomputable def o24en2v169 (b : Bool) : Obj := ⟨(.type "list_iterator"), none, (.fields [(.ref 167), (.int 9 0)].toArray), [].toArray⟩
noncomputable def o24en3v168 (b : Bool) : Obj := ⟨(.type "set"), none, (.set [sv 832 431, sv 833 432, sv 8234 440, sv 8235 441, sv 8236 442, sv 8237 443, sv 8206 433, sv 8207 434, sv 8238 444, sv 8298 450, sv 8299 451, sv 8300 452, sv 8301 453].toArray 14 ⟨31, [0, 1, 10, 11, 12, 13, 14, 15, 16, 17, 18, 19, 20].toArray, [].toArray, 0, !b, 1, true⟩), [].toArray⟩
noncomputable def o24en3v169 (b : Bool) : Obj := ⟨(.type "list_iterator"), none, (.fields [(.ref 167), (.int 13 0)].toArray), [].toArray⟩
noncomputable def o24en4v168 (b : Bool) : Obj := ⟨(.type "set"), none, (.set [sv 832 431, sv 833 432, sv 8234 440, sv 8235 441, sv 8236 442, sv 8237 443, sv 8206 433, sv 8207 434, sv 8238 444, sv 8298 450, sv 8299 451, sv 8300 452, sv 8301 453, sv 8302 454, sv 8303 455].toArray 16 ⟨31, [0, 1, 10, 11, 12, 13, 14, 15, 16, 17, 18, 19, 20, 21, 22].toArray, [].toArray, 0, !b, 1, true⟩), [].toArray⟩
noncomputable def o24en4v169 (b : Bool) : Obj := ⟨(.type "list_iterator"), none, (.fields [(.ref 167), (.int 15 0)].toArray), [].toArray⟩
noncomputable def ls24e (b : Bool) (w : World) (os : OsState) : LS := lsOf (goT (tGo tTab tp w 11 annT 1 7 ((sh24d o24dn0v168 456) b w os) (lpT cd24d cc24d ⟨64, 9, 64, 88⟩ (ls24d b w os))))
noncomputable def IN24e (b : Bool) (w : World) : Prop := ∀ os, tGo tTab tp w 11 annT 1 7 ((sh24d o24dn0v168 456) b w os) (lpT cd24d cc24d ⟨64, 9, 64, 88⟩ (ls24d b w os)) = some ((sh24e o24en0v168 o24en0v169 457) b w os, (lpT cd24e cc24e ⟨64, 9, 64, 88⟩ (ls24e b w os)))
theorem in24ef : (∀ w, IN24e false (wa w)) ∧ ∀ w, IN24e false (wb w) := ⟨fun w os => by kernel_rfl, fun w os => by kernel_rfl⟩
theorem in24et : (∀ w, IN24e true (wc w)) ∧ ∀ w, IN24e true (wd w) := ⟨fun w os => by kernel_rfl, fun w os => by kernel_rfl⟩
theorem in24e : B4 IN24e := ⟨in24ef.1, in24ef.2, in24et.1, in24et.2⟩
theorem tn24en1 : B4 (Turn (sh24e o24en0v168 o24en0v169 457) cd24e ⟨64, 9, 64, 88⟩ 82 (sh24e o24en1v168 o24en1v169 461)) := ⟨fun w os x => by kernel_rfl, fun w os x => by kernel_rfl, fun w os x => by kernel_rfl, fun w os x => by kernel_rfl⟩
theorem tn24en2 : B4 (Turn (sh24e o24en1v168 o24en1v169 461) cd24e ⟨64, 9, 64, 88⟩ 80 (sh24e o24en2v168 o24en2v169 465)) := ⟨fun w os x => by kernel_rfl, fun w os x => by kernel_rfl, fun w os x => by kernel_rfl, fun w os x => by kernel_rfl⟩
theorem tn24en3 : B4 (Turn (sh24e o24en2v168 o24en2v169 465) cd24e ⟨64, 9, 64, 88⟩ 80 (sh24e o24en3v168 o24en3v169 469)) := ⟨fun w os x => by kernel_rfl, fun w os x => by kernel_rfl, fun w os x => by kernel_rfl, fun w os x => by kernel_rfl⟩
theorem tn24en4 : B4 (Turn (sh24e o24en3v168 o24en3v169 469) cd24e ⟨64, 9, 64, 88⟩ 40 (sh24e o24en4v168 o24en4v169 471)) := ⟨fun w os x => by kernel_rfl, fun w os x => by kernel_rfl, fun w os x => by kernel_rfl, fun w os x => by kernel_rfl⟩
theorem end24 : B4 fun b w => ∀ os, tRun tTab tp w 11 annT 1 28 ((sh24e o24en4v168 o24en4v169 471) b w os) (lpT cd24e cc24e ⟨64, 9, 64, 88⟩ (ls24e b w os)) = some (.next, shj w os, cdT, ⟨64, 0, 64, 6⟩) := ⟨fun w os => by kernel_rfl, fun w os => by kernel_rfl, fun w os => by kernel_rfl, fun w os => by kernel_rfl⟩
theorem pc24 (w : World) (os : OsState) : sgR w 775 (shi w os).abs (thT (sgT 24 1) ⟨62, 0, 63, 30⟩) = some (.next, (shj w os).abs, cdT, ⟨64, 0, 64, 6⟩) := by
  have e0 := (end24).imp fun b w h os => run_T (h os)
  have e1 := ((tn24en4).and e0).imp fun b w h os => seg_go (N := 28) (go_T (h.1 os _)) (h.2 os)
  have e2 := ((tn24en3).and e1).imp fun b w h os => seg_go (N := 68) (go_T (h.1 os _)) (h.2 os)
  have e3 := ((tn24en2).and e2).imp fun b w h os => seg_go (N := 148) (go_T (h.1 os _)) (h.2 os)
  have e4 := ((tn24en1).and e3).imp fun b w h os => seg_go (N := 228) (go_T (h.1 os _)) (h.2 os)
  have e5 := ((in24e).and e4).imp fun b w h os => seg_go (N := 310) (go_T (h.1 os)) (h.2 os)
  have e6 := ((in24d).and e5).imp fun b w h os => seg_go (N := 317) (go_T (h.1 os)) (h.2 os)
  have e7 := ((in24c).and e6).imp fun b w h os => seg_go (N := 345) (go_T (h.1 os)) (h.2 os)
  have e8 := ((tn24bn1).and e7).imp fun b w h os => seg_go (N := 389) (go_T (h.1 os _)) (h.2 os)
  have e9 := ((in24b).and e8).imp fun b w h os => seg_go (N := 474) (go_T (h.1 os)) (h.2 os)
  have e10 := ((tn24an1).and e9).imp fun b w h os => seg_go (N := 601) (go_T (h.1 os _)) (h.2 os)
  have e11 := ((in24a).and e10).imp fun b w h os => seg_go (N := 669) (go_T (h.1 os)) (h.2 os)
  exact (e11).all w os
end Mine
end
end
section
open PySem PySem.W PyProof.Rows
section
namespace Mine
noncomputable def ob179r26a : Obj := ⟨(.type "list"), none, (.seq [(.int 917505 479)].toArray 0), [].toArray⟩
noncomputable def ob180r26a : Obj := ⟨(.type "range"), none, (.fields [(.int 917536 480), (.int 917632 481), (.int 1 482)].toArray), [].toArray⟩
noncomputable def tr26a (v181 v182 : Obj) (P : Params) : BT := (nd (boot_o_0 P) (nd (boot_o_1 P) (nd (ob3k P) (nd (boot_o_7 P) (nd ob15b (nd ob31b (nd ob63b (lf ob127e) .nil) (nd ob95c (lf ob159j) .nil)) (nd ob47b (nd ob79b (lf ob143h) .nil) (nd ob111d (lf ob175k) .nil))) (nd ob23b (nd ob39b (nd ob71b (lf ob135f) .nil) (nd ob103c (lf ob167j) .nil)) (nd ob55b (nd ob87b (lf ob151i) .nil) (lf ob119e)))) (nd ob11a (nd ob19b (nd ob35b (nd ob67b (lf ob131f) .nil) (nd ob99c (lf ob163j) .nil)) (nd ob51b (nd ob83b (lf ob147h) .nil) (nd ob115d (lf ob179r26a) .nil))) (nd ob27b (nd ob43b (nd ob75b (lf ob139g) .nil) (nd ob107d (lf ob171j) .nil)) (nd ob59b (nd ob91b (lf ob155j) .nil) (lf ob123e))))) (nd (boot_o_5 P) (nd (boot_o_9 P) (nd ob17b (nd ob33b (nd ob65b (lf ob129e) .nil) (nd ob97c (lf ob161j) .nil)) (nd ob49b (nd ob81b (lf ob145h) .nil) (nd (ob113d P) (lf ob177k) .nil))) (nd ob25b (nd ob41b (nd ob73b (lf ob137g) .nil) (nd ob105c (lf ob169j) .nil)) (nd ob57b (nd ob89b (lf ob153i) .nil) (lf ob121e)))) (nd ob13a (nd ob21b (nd ob37b (nd ob69b (lf ob133f) .nil) (nd ob101c (lf ob165j) .nil)) (nd ob53b (nd ob85b (lf ob149i) .nil) (nd ob117e (lf v181) .nil))) (nd ob29b (nd ob45b (nd ob77b (lf ob141g) .nil) (nd ob109d (lf ob173k) .nil)) (nd ob61b (nd ob93c (lf ob157j) .nil) (lf ob125e)))))) (nd (boot_o_2 P) (nd (boot_o_4 P) (nd (boot_o_8 P) (nd ob16b (nd ob32b (nd ob64b (lf ob128e) .nil) (nd ob96c (lf ob160j) .nil)) (nd ob48b (nd ob80b (lf (ob144h P)) .nil) (nd ob112d (lf ob176k) .nil))) (nd ob24b (nd ob40b (nd ob72b (lf ob136g) .nil) (nd ob104c (lf (ob168j P)) .nil)) (nd ob56b (nd ob88b (lf ob152i) .nil) (lf ob120e)))) (nd ob12k (nd ob20b (nd ob36b (nd ob68b (lf (ob132f P)) .nil) (nd ob100c (lf ob164j) .nil)) (nd ob52b (nd ob84b (lf ob148i) .nil) (nd ob116d (lf ob180r26a) .nil))) (nd ob28b (nd ob44b (nd ob76b (lf ob140g) .nil) (nd ob108d (lf ob172k) .nil)) (nd ob60b (nd ob92c (lf ob156j) .nil) (lf ob124e))))) (nd (boot_o_6 P) (nd (boot_o_10 P) (nd ob18b (nd ob34b (nd ob66b (lf ob130e) .nil) (nd ob98c (lf ob162j) .nil)) (nd ob50b (nd ob82b (lf ob146h) .nil) (nd ob114d (lf ob178k) .nil))) (nd ob26b (nd ob42b (nd ob74b (lf ob138g) .nil) (nd ob106d (lf ob170j) .nil)) (nd ob58b (nd ob90b (lf ob154i) .nil) (lf ob122e)))) (nd ob14a (nd ob22b (nd ob38b (nd ob70b (lf ob134f) .nil) (nd ob102c (lf ob166j) .nil)) (nd ob54b (nd ob86b (lf ob150i) .nil) (nd ob118e (lf v182) .nil))) (nd ob30b (nd ob46b (nd ob78b (lf ob142g) .nil) (nd ob110d (lf ob174k) .nil)) (nd ob62b (nd ob94c (lf ob158j) .nil) (lf ob126e)))))))
noncomputable def sh26a (v181 v182 : Bool → Obj) (toks : Nat) (b : Bool) (w : World) (os : OsState) : SharedT := ⟨tr26a (v181 b) (v182 b) w.params, 183, bLife, .mk [], boot_drawn, toks, os⟩
noncomputable abbrev cd26a : Code := bl "list.extend.loop" [(.ref 181), (.ref 182), .none]
noncomputable abbrev cc26a : Code := (bl "list.extend.loop" [(.ref 181), (.ref 182), .none])
noncomputable def o26an0v181 (b : Bool) : Obj := ⟨(.type "list"), none, (.seq [(.int 917536 485)].toArray 3), [].toArray⟩
noncomputable def o26an0v182 (b : Bool) : Obj := ⟨(.type "range_iterator"), none, (.fields [(.int 917537 0), (.int 95 0), (.int 1 0)].toArray), [].toArray⟩
noncomputable def o26an1v181 (b : Bool) : Obj := ⟨(.type "list"), none, (.seq [(.int 917536 485), (.int 917537 486), (.int 917538 487), (.int 917539 488), (.int 917540 489), (.int 917541 490), (.int 917542 491), (.int 917543 492), (.int 917544 493), (.int 917545 494), (.int 917546 495), (.int 917547 496), (.int 917548 497), (.int 917549 498), (.int 917550 499), (.int 917551 500), (.int 917552 501), (.int 917553 502), (.int 917554 503), (.int 917555 504), (.int 917556 505), (.int 917557 506), (.int 917558 507), (.int 917559 508), (.int 917560 509), (.int 917561 510), (.int 917562 511), (.int 917563 512), (.int 917564 513), (.int 917565 514), (.int 917566 515), (.int 917567 516), (.int 917568 517)].toArray 35), [].toArray⟩
noncomputable def o26an1v182 (b : Bool) : Obj := ⟨(.type "range_iterator"), none, (.fields [(.int 917569 0), (.int 63 0), (.int 1 0)].toArray), [].toArray⟩
noncomputable def o26an2v181 (b : Bool) : Obj := ⟨(.type "list"), none, (.seq [(.int 917536 485), (.int 917537 486), (.int 917538 487), (.int 917539 488), (.int 917540 489), (.int 917541 490), (.int 917542 491), (.int 917543 492), (.int 917544 493), (.int 917545 494), (.int 917546 495), (.int 917547 496), (.int 917548 497), (.int 917549 498), (.int 917550 499), (.int 917551 500), (.int 917552 501), (.int 917553 502), (.int 917554 503), (.int 917555 504), (.int 917556 505), (.int 917557 506), (.int 917558 507), (.int 917559 508), (.int 917560 509), (.int 917561 510), (.int 917562 511), (.int 917563 512), (.int 917564 513), (.int 917565 514), (.int 917566 515), (.int 917567 516), (.int 917568 517), (.int 917569 518), (.int 917570 519), (.int 917571 520), (.int 917572 521), (.int 917573 522), (.int 917574 523), (.int 917575 524), (.int 917576 525), (.int 917577 526), (.int 917578 527), (.int 917579 528), (.int 917580 529), (.int 917581 530), (.int 917582 531), (.int 917583 532), (.int 917584 533), (.int 917585 534), (.int 917586 535), (.int 917587 536), (.int 917588 537), (.int 917589 538), (.int 917590 539), (.int 917591 540), (.int 917592 541), (.int 917593 542), (.int 917594 543), (.int 917595 544), (.int 917596 545), (.int 917597 546), (.int 917598 547), (.int 917599 548), (.int 917600 549)].toArray 67), [].toArray⟩
noncomputable def o26an2v182 (b : Bool) : Obj := ⟨(.type "range_iterator"), none, (.fields [(.int 917601 0), (.int 31 0), (.int 1 0)].toArray), [].toArray⟩
noncomputable def o26an3v181 (b : Bool) : Obj := ⟨(.type "list"), none, (.seq [(.int 917536 485), (.int 917537 486), (.int 917538 487), (.int 917539 488), (.int 917540 489), (.int 917541 490), (.int 917542 491), (.int 917543 492), (.int 917544 493), (.int 917545 494), (.int 917546 495), (.int 917547 496), (.int 917548 497), (.int 917549 498), (.int 917550 499), (.int 917551 500), (.int 917552 501), (.int 917553 502), (.int 917554 503), (.int 917555 504), (.int 917556 505), (.int 917557 506), (.int 917558 507), (.int 917559 508), (.int 917560 509), (.int 917561 510), (.int 917562 511), (.int 917563 512), (.int 917564 513), (.int 917565 514), (.int 917566 515), (.int 917567 516), (.int 917568 517), (.int 917569 518), (.int 917570 519), (.int 917571 520), (.int 917572 521), (.int 917573 522), (.int 917574 523), (.int 917575 524), (.int 917576 525), (.int 917577 526), (.int 917578 527), (.int 917579 528), (.int 917580 529), (.int 917581 530), (.int 917582 531), (.int 917583 532), (.int 917584 533), (.int 917585 534), (.int 917586 535), (.int 917587 536), (.int 917588 537), (.int 917589 538), (.int 917590 539), (.int 917591 540), (.int 917592 541), (.int 917593 542), (.int 917594 543), (.int 917595 544), (.int 917596 545), (.int 917597 546), (.int 917598 547), (.int 917599 548), (.int 917600 549), (.int 917601 550), (.int 917602 551), (.int 917603 552), (.int 917604 553), (.int 917605 554), (.int 917606 555), (.int 917607 556), (.int 917608 557), (.int 917609 558), (.int 917610 559), (.int 917611 560), (.int 917612 561), (.int 917613 562), (.int 917614 563), (.int 917615 564), (.int 917616 565), (.int 917617 566), (.int 917618 567), (.int 917619 568), (.int 917620 569), (.int 917621 570), (.int 917622 571), (.int 917623 572), (.int 917624 573), (.int 917625 574), (.int 917626 575), (.int 917627 576), (.int 917628 577), (.int 917629 578), (.int 917630 579), (.int 917631 580)].toArray 98), [].toArray⟩
noncomputable def o26an3v182 (b : Bool) : Obj := ⟨(.type "range_iterator"), none, (.fields [(.int 917632 0), (.int 0 0), (.int 1 0)].toArray), [].toArray⟩
noncomputable def ls26a (b : Bool) (w : World) (os : OsState) : LS := lsOf (goT (tGo tTab tp w 11 annT 1 103 (shk w os) (thT (sgT 26 1) ⟨65, 0, 66, 30⟩)))
noncomputable def IN26a (b : Bool) (w : World) : Prop := ∀ os, tGo tTab tp w 11 annT 1 103 (shk w os) (thT (sgT 26 1) ⟨65, 0, 66, 30⟩) = some ((sh26a o26an0v181 o26an0v182 486) b w os, (lpT cd26a cc26a ⟨67, 24, 67, 51⟩ (ls26a b w os)))
theorem in26af : (∀ w, IN26a false (wa w)) ∧ ∀ w, IN26a false (wb w) := ⟨fun w os => by kernel_rfl, fun w os => by kernel_rfl⟩
theorem in26at : (∀ w, IN26a true (wc w)) ∧ ∀ w, IN26a true (wd w) := ⟨fun w os => by kernel_rfl, fun w os => by kernel_rfl⟩
theorem in26a : B4 IN26a := ⟨in26af.1, in26af.2, in26at.1, in26at.2⟩
theorem tn26an1 : B4 (Turn (sh26a o26an0v181 o26an0v182 486) cd26a ⟨67, 24, 67, 51⟩ 544 (sh26a o26an1v181 o26an1v182 518)) := .of fun b w os x => by kernel_rfl
theorem tn26an2 : B4 (Turn (sh26a o26an1v181 o26an1v182 518) cd26a ⟨67, 24, 67, 51⟩ 544 (sh26a o26an2v181 o26an2v182 550)) := .of fun b w os x => by kernel_rfl
theorem tn26an3 : B4 (Turn (sh26a o26an2v181 o26an2v182 550) cd26a ⟨67, 24, 67, 51⟩ 527 (sh26a o26an3v181 o26an3v182 581)) := .of fun b w os x => by kernel_rfl
noncomputable def ob181r26b : Obj := ⟨(.type "list"), none, (.seq [(.int 917536 485), (.int 917537 486), (.int 917538 487), (.int 917539 488), (.int 917540 489), (.int 917541 490), (.int 917542 491), (.int 917543 492), (.int 917544 493), (.int 917545 494), (.int 917546 495), (.int 917547 496), (.int 917548 497), (.int 917549 498), (.int 917550 499), (.int 917551 500), (.int 917552 501), (.int 917553 502), (.int 917554 503), (.int 917555 504), (.int 917556 505), (.int 917557 506), (.int 917558 507), (.int 917559 508), (.int 917560 509), (.int 917561 510), (.int 917562 511), (.int 917563 512), (.int 917564 513), (.int 917565 514), (.int 917566 515), (.int 917567 516), (.int 917568 517), (.int 917569 518), (.int 917570 519), (.int 917571 520), (.int 917572 521), (.int 917573 522), (.int 917574 523), (.int 917575 524), (.int 917576 525), (.int 917577 526), (.int 917578 527), (.int 917579 528), (.int 917580 529), (.int 917581 530), (.int 917582 531), (.int 917583 532), (.int 917584 533), (.int 917585 534), (.int 917586 535), (.int 917587 536), (.int 917588 537), (.int 917589 538), (.int 917590 539), (.int 917591 540), (.int 917592 541), (.int 917593 542), (.int 917594 543), (.int 917595 544), (.int 917596 545), (.int 917597 546), (.int 917598 547), (.int 917599 548), (.int 917600 549), (.int 917601 550), (.int 917602 551), (.int 917603 552), (.int 917604 553), (.int 917605 554), (.int 917606 555), (.int 917607 556), (.int 917608 557), (.int 917609 558), (.int 917610 559), (.int 917611 560), (.int 917612 561), (.int 917613 562), (.int 917614 563), (.int 917615 564), (.int 917616 565), (.int 917617 566), (.int 917618 567), (.int 917619 568), (.int 917620 569), (.int 917621 570), (.int 917622 571), (.int 917623 572), (.int 917624 573), (.int 917625 574), (.int 917626 575), (.int 917627 576), (.int 917628 577), (.int 917629 578), (.int 917630 579), (.int 917631 580)].toArray 98), [].toArray⟩
noncomputable def ob182r26b : Obj := ⟨(.type "range_iterator"), none, (.fields [(.int 917632 0), (.int 0 0), (.int 1 0)].toArray), [].toArray⟩
noncomputable def ob183r26b : Obj := ⟨(.type "tuple"), none, (.seq [].toArray 0), [].toArray⟩
noncomputable def ob184r26b : Obj := ⟨(.type "StopIteration"), none, (.fields [(.ref 183), .none, .none, .none, (.bool false), .none].toArray), [].toArray⟩
noncomputable def ob185r26b : Obj := ⟨(.type "list"), none, (.seq [(.int 917505 479), (.int 917536 485), (.int 917537 486), (.int 917538 487), (.int 917539 488), (.int 917540 489), (.int 917541 490), (.int 917542 491), (.int 917543 492), (.int 917544 493), (.int 917545 494), (.int 917546 495), (.int 917547 496), (.int 917548 497), (.int 917549 498), (.int 917550 499), (.int 917551 500), (.int 917552 501), (.int 917553 502), (.int 917554 503), (.int 917555 504), (.int 917556 505), (.int 917557 506), (.int 917558 507), (.int 917559 508), (.int 917560 509), (.int 917561 510), (.int 917562 511), (.int 917563 512), (.int 917564 513), (.int 917565 514), (.int 917566 515), (.int 917567 516), (.int 917568 517), (.int 917569 518), (.int 917570 519), (.int 917571 520), (.int 917572 521), (.int 917573 522), (.int 917574 523), (.int 917575 524), (.int 917576 525), (.int 917577 526), (.int 917578 527), (.int 917579 528), (.int 917580 529), (.int 917581 530), (.int 917582 531), (.int 917583 532), (.int 917584 533), (.int 917585 534), (.int 917586 535), (.int 917587 536), (.int 917588 537), (.int 917589 538), (.int 917590 539), (.int 917591 540), (.int 917592 541), (.int 917593 542), (.int 917594 543), (.int 917595 544), (.int 917596 545), (.int 917597 546), (.int 917598 547), (.int 917599 548), (.int 917600 549), (.int 917601 550), (.int 917602 551), (.int 917603 552), (.int 917604 553), (.int 917605 554), (.int 917606 555), (.int 917607 556), (.int 917608 557), (.int 917609 558), (.int 917610 559), (.int 917611 560), (.int 917612 561), (.int 917613 562), (.int 917614 563), (.int 917615 564), (.int 917616 565), (.int 917617 566), (.int 917618 567), (.int 917619 568), (.int 917620 569), (.int 917621 570), (.int 917622 571), (.int 917623 572), (.int 917624 573), (.int 917625 574), (.int 917626 575), (.int 917627 576), (.int 917628 577), (.int 917629 578), (.int 917630 579), (.int 917631 580)].toArray 0), [].toArray⟩
noncomputable def tr26b (v186 : Obj) (P : Params) : BT := (nd (boot_o_0 P) (nd (boot_o_1 P) (nd (ob3k P) (nd (boot_o_7 P) (nd ob15b (nd ob31b (nd ob63b (lf ob127e) .nil) (nd ob95c (lf ob159j) .nil)) (nd ob47b (nd ob79b (lf ob143h) .nil) (nd ob111d (lf ob175k) .nil))) (nd ob23b (nd ob39b (nd ob71b (lf ob135f) .nil) (nd ob103c (lf ob167j) .nil)) (nd ob55b (nd ob87b (lf ob151i) .nil) (nd ob119e (lf ob183r26b) .nil)))) (nd ob11a (nd ob19b (nd ob35b (nd ob67b (lf ob131f) .nil) (nd ob99c (lf ob163j) .nil)) (nd ob51b (nd ob83b (lf ob147h) .nil) (nd ob115d (lf ob179r26a) .nil))) (nd ob27b (nd ob43b (nd ob75b (lf ob139g) .nil) (nd ob107d (lf ob171j) .nil)) (nd ob59b (nd ob91b (lf ob155j) .nil) (lf ob123e))))) (nd (boot_o_5 P) (nd (boot_o_9 P) (nd ob17b (nd ob33b (nd ob65b (lf ob129e) .nil) (nd ob97c (lf ob161j) .nil)) (nd ob49b (nd ob81b (lf ob145h) .nil) (nd (ob113d P) (lf ob177k) .nil))) (nd ob25b (nd ob41b (nd ob73b (lf ob137g) .nil) (nd ob105c (lf ob169j) .nil)) (nd ob57b (nd ob89b (lf ob153i) .nil) (nd ob121e (lf ob185r26b) .nil)))) (nd ob13a (nd ob21b (nd ob37b (nd ob69b (lf ob133f) .nil) (nd ob101c (lf ob165j) .nil)) (nd ob53b (nd ob85b (lf ob149i) .nil) (nd ob117e (lf ob181r26b) .nil))) (nd ob29b (nd ob45b (nd ob77b (lf ob141g) .nil) (nd ob109d (lf ob173k) .nil)) (nd ob61b (nd ob93c (lf ob157j) .nil) (lf ob125e)))))) (nd (boot_o_2 P) (nd (boot_o_4 P) (nd (boot_o_8 P) (nd ob16b (nd ob32b (nd ob64b (lf ob128e) .nil) (nd ob96c (lf ob160j) .nil)) (nd ob48b (nd ob80b (lf (ob144h P)) .nil) (nd ob112d (lf ob176k) .nil))) (nd ob24b (nd ob40b (nd ob72b (lf ob136g) .nil) (nd ob104c (lf (ob168j P)) .nil)) (nd ob56b (nd ob88b (lf ob152i) .nil) (nd ob120e (lf ob184r26b) .nil)))) (nd ob12k (nd ob20b (nd ob36b (nd ob68b (lf (ob132f P)) .nil) (nd ob100c (lf ob164j) .nil)) (nd ob52b (nd ob84b (lf ob148i) .nil) (nd ob116d (lf ob180r26a) .nil))) (nd ob28b (nd ob44b (nd ob76b (lf ob140g) .nil) (nd ob108d (lf ob172k) .nil)) (nd ob60b (nd ob92c (lf ob156j) .nil) (lf ob124e))))) (nd (boot_o_6 P) (nd (boot_o_10 P) (nd ob18b (nd ob34b (nd ob66b (lf ob130e) .nil) (nd ob98c (lf ob162j) .nil)) (nd ob50b (nd ob82b (lf ob146h) .nil) (nd ob114d (lf ob178k) .nil))) (nd ob26b (nd ob42b (nd ob74b (lf ob138g) .nil) (nd ob106d (lf ob170j) .nil)) (nd ob58b (nd ob90b (lf ob154i) .nil) (nd ob122e (lf v186) .nil)))) (nd ob14a (nd ob22b (nd ob38b (nd ob70b (lf ob134f) .nil) (nd ob102c (lf ob166j) .nil)) (nd ob54b (nd ob86b (lf ob150i) .nil) (nd ob118e (lf ob182r26b) .nil))) (nd ob30b (nd ob46b (nd ob78b (lf ob142g) .nil) (nd ob110d (lf ob174k) .nil)) (nd ob62b (nd ob94c (lf ob158j) .nil) (lf ob126e)))))))
noncomputable def sh26b (v186 : Bool → Obj) (toks : Nat) (b : Bool) (w : World) (os : OsState) : SharedT := ⟨tr26b (v186 b) w.params, 187, bLife, .mk [], boot_drawn, toks, os⟩
noncomputable abbrev cd26b : Code := bl "set.__init__" [(.ref 186), (.ref 185)]
noncomputable abbrev cc26b : Code := (.call (.builtin "set.__init__") ⟨[(.ref 186), (.ref 185)], []⟩)
noncomputable def o26bn0v186 (b : Bool) : Obj := ⟨(.type "set"), none, (.set [].toArray 0 ⟨7, [].toArray, [].toArray, 0, !b, 0, true⟩), [].toArray⟩
noncomputable def ls26b (b : Bool) (w : World) (os : OsState) : LS := lsOf (goT (tGo tTab tp w 11 annT 1 44 ((sh26a o26an3v181 o26an3v182 581) b w os) (lpT cd26a cc26a ⟨67, 24, 67, 51⟩ (ls26a b w os))))
noncomputable def IN26b (b : Bool) (w : World) : Prop := ∀ os, tGo tTab tp w 11 annT 1 44 ((sh26a o26an3v181 o26an3v182 581) b w os) (lpT cd26a cc26a ⟨67, 24, 67, 51⟩ (ls26a b w os)) = some ((sh26b o26bn0v186 581) b w os, (lpT cd26b cc26b ⟨67, 9, 67, 52⟩ (ls26b b w os)))
theorem in26bf : (∀ w, IN26b false (wa w)) ∧ ∀ w, IN26b false (wb w) := ⟨fun w os => by kernel_rfl, fun w os => by kernel_rfl⟩
theorem in26bt : (∀ w, IN26b true (wc w)) ∧ ∀ w, IN26b true (wd w) := ⟨fun w os => by kernel_rfl, fun w os => by kernel_rfl⟩
theorem in26b : B4 IN26b := ⟨in26bf.1, in26bf.2, in26bt.1, in26bt.2⟩
noncomputable def ob187r26c : Obj := ⟨(.type "list_iterator"), none, (.fields [(.ref 185), (.int 1 0)].toArray), [].toArray⟩
noncomputable def tr26c (v186 : Obj) (P : Params) : BT := (nd (boot_o_0 P) (nd (boot_o_1 P) (nd (ob3k P) (nd (boot_o_7 P) (nd ob15b (nd ob31b (nd ob63b (lf ob127e) .nil) (nd ob95c (lf ob159j) .nil)) (nd ob47b (nd ob79b (lf ob143h) .nil) (nd ob111d (lf ob175k) .nil))) (nd ob23b (nd ob39b (nd ob71b (lf ob135f) .nil) (nd ob103c (lf ob167j) .nil)) (nd ob55b (nd ob87b (lf ob151i) .nil) (nd ob119e (lf ob183r26b) .nil)))) (nd ob11a (nd ob19b (nd ob35b (nd ob67b (lf ob131f) .nil) (nd ob99c (lf ob163j) .nil)) (nd ob51b (nd ob83b (lf ob147h) .nil) (nd ob115d (lf ob179r26a) .nil))) (nd ob27b (nd ob43b (nd ob75b (lf ob139g) .nil) (nd ob107d (lf ob171j) .nil)) (nd ob59b (nd ob91b (lf ob155j) .nil) (nd ob123e (lf ob187r26c) .nil))))) (nd (boot_o_5 P) (nd (boot_o_9 P) (nd ob17b (nd ob33b (nd ob65b (lf ob129e) .nil) (nd ob97c (lf ob161j) .nil)) (nd ob49b (nd ob81b (lf ob145h) .nil) (nd (ob113d P) (lf ob177k) .nil))) (nd ob25b (nd ob41b (nd ob73b (lf ob137g) .nil) (nd ob105c (lf ob169j) .nil)) (nd ob57b (nd ob89b (lf ob153i) .nil) (nd ob121e (lf ob185r26b) .nil)))) (nd ob13a (nd ob21b (nd ob37b (nd ob69b (lf ob133f) .nil) (nd ob101c (lf ob165j) .nil)) (nd ob53b (nd ob85b (lf ob149i) .nil) (nd ob117e (lf ob181r26b) .nil))) (nd ob29b (nd ob45b (nd ob77b (lf ob141g) .nil) (nd ob109d (lf ob173k) .nil)) (nd ob61b (nd ob93c (lf ob157j) .nil) (lf ob125e)))))) (nd (boot_o_2 P) (nd (boot_o_4 P) (nd (boot_o_8 P) (nd ob16b (nd ob32b (nd ob64b (lf ob128e) .nil) (nd ob96c (lf ob160j) .nil)) (nd ob48b (nd ob80b (lf (ob144h P)) .nil) (nd ob112d (lf ob176k) .nil))) (nd ob24b (nd ob40b (nd ob72b (lf ob136g) .nil) (nd ob104c (lf (ob168j P)) .nil)) (nd ob56b (nd ob88b (lf ob152i) .nil) (nd ob120e (lf ob184r26b) .nil)))) (nd ob12k (nd ob20b (nd ob36b (nd ob68b (lf (ob132f P)) .nil) (nd ob100c (lf ob164j) .nil)) (nd ob52b (nd ob84b (lf ob148i) .nil) (nd ob116d (lf ob180r26a) .nil))) (nd ob28b (nd ob44b (nd ob76b (lf ob140g) .nil) (nd ob108d (lf ob172k) .nil)) (nd ob60b (nd ob92c (lf ob156j) .nil) (lf ob124e))))) (nd (boot_o_6 P) (nd (boot_o_10 P) (nd ob18b (nd ob34b (nd ob66b (lf ob130e) .nil) (nd ob98c (lf ob162j) .nil)) (nd ob50b (nd ob82b (lf ob146h) .nil) (nd ob114d (lf ob178k) .nil))) (nd ob26b (nd ob42b (nd ob74b (lf ob138g) .nil) (nd ob106d (lf ob170j) .nil)) (nd ob58b (nd ob90b (lf ob154i) .nil) (nd ob122e (lf v186) .nil)))) (nd ob14a (nd ob22b (nd ob38b (nd ob70b (lf ob134f) .nil) (nd ob102c (lf ob166j) .nil)) (nd ob54b (nd ob86b (lf ob150i) .nil) (nd ob118e (lf ob182r26b) .nil))) (nd ob30b (nd ob46b (nd ob78b (lf ob142g) .nil) (nd ob110d (lf ob174k) .nil)) (nd ob62b (nd ob94c (lf ob158j) .nil) (lf ob126e)))))))
noncomputable def sh26c (v186 : Bool → Obj) (toks : Nat) (b : Bool) (w : World) (os : OsState) : SharedT := ⟨tr26c (v186 b) w.params, 188, bLife, .mk [], boot_drawn, toks, os⟩
noncomputable abbrev cd26c : Code := bl "int.__hash__" [(.int 917505 479)]
noncomputable abbrev cc26c : Code := (.call (.builtin "int.__hash__") ⟨[(.int 917505 479)], []⟩)
noncomputable def o26cn0v186 (b : Bool) : Obj := ⟨(.type "set"), none, (.set [].toArray 0 ⟨7, [].toArray, [].toArray, 0, !b, 0, true⟩), [].toArray⟩
noncomputable def ls26c (b : Bool) (w : World) (os : OsState) : LS := lsOf (goT (tGo tTab tp w 11 annT 1 28 ((sh26b o26bn0v186 581) b w os) (lpT cd26b cc26b ⟨67, 9, 67, 52⟩ (ls26b b w os))))
noncomputable def IN26c (b : Bool) (w : World) : Prop := ∀ os, tGo tTab tp w 11 annT 1 28 ((sh26b o26bn0v186 581) b w os) (lpT cd26b cc26b ⟨67, 9, 67, 52⟩ (ls26b b w os)) = some ((sh26c o26cn0v186 581) b w os, (lpT cd26c cc26c ⟨67, 9, 67, 52⟩ (ls26c b w os)))
theorem in26cf : (∀ w, IN26c false (wa w)) ∧ ∀ w, IN26c false (wb w) := ⟨fun w os => by kernel_rfl, fun w os => by kernel_rfl⟩
theorem in26ct : (∀ w, IN26c true (wc w)) ∧ ∀ w, IN26c true (wd w) := ⟨fun w os => by kernel_rfl, fun w os => by kernel_rfl⟩
theorem in26c : B4 IN26c := ⟨in26cf.1, in26cf.2, in26ct.1, in26ct.2⟩
noncomputable def tr26d (v186 v187 : Obj) (P : Params) : BT := (nd (boot_o_0 P) (nd (boot_o_1 P) (nd (ob3k P) (nd (boot_o_7 P) (nd ob15b (nd ob31b (nd ob63b (lf ob127e) .nil) (nd ob95c (lf ob159j) .nil)) (nd ob47b (nd ob79b (lf ob143h) .nil) (nd ob111d (lf ob175k) .nil))) (nd ob23b (nd ob39b (nd ob71b (lf ob135f) .nil) (nd ob103c (lf ob167j) .nil)) (nd ob55b (nd ob87b (lf ob151i) .nil) (nd ob119e (lf ob183r26b) .nil)))) (nd ob11a (nd ob19b (nd ob35b (nd ob67b (lf ob131f) .nil) (nd ob99c (lf ob163j) .nil)) (nd ob51b (nd ob83b (lf ob147h) .nil) (nd ob115d (lf ob179r26a) .nil))) (nd ob27b (nd ob43b (nd ob75b (lf ob139g) .nil) (nd ob107d (lf ob171j) .nil)) (nd ob59b (nd ob91b (lf ob155j) .nil) (nd ob123e (lf v187) .nil))))) (nd (boot_o_5 P) (nd (boot_o_9 P) (nd ob17b (nd ob33b (nd ob65b (lf ob129e) .nil) (nd ob97c (lf ob161j) .nil)) (nd ob49b (nd ob81b (lf ob145h) .nil) (nd (ob113d P) (lf ob177k) .nil))) (nd ob25b (nd ob41b (nd ob73b (lf ob137g) .nil) (nd ob105c (lf ob169j) .nil)) (nd ob57b (nd ob89b (lf ob153i) .nil) (nd ob121e (lf ob185r26b) .nil)))) (nd ob13a (nd ob21b (nd ob37b (nd ob69b (lf ob133f) .nil) (nd ob101c (lf ob165j) .nil)) (nd ob53b (nd ob85b (lf ob149i) .nil) (nd ob117e (lf ob181r26b) .nil))) (nd ob29b (nd ob45b (nd ob77b (lf ob141g) .nil) (nd ob109d (lf ob173k) .nil)) (nd ob61b (nd ob93c (lf ob157j) .nil) (lf ob125e)))))) (nd (boot_o_2 P) (nd (boot_o_4 P) (nd (boot_o_8 P) (nd ob16b (nd ob32b (nd ob64b (lf ob128e) .nil) (nd ob96c (lf ob160j) .nil)) (nd ob48b (nd ob80b (lf (ob144h P)) .nil) (nd ob112d (lf ob176k) .nil))) (nd ob24b (nd ob40b (nd ob72b (lf ob136g) .nil) (nd ob104c (lf (ob168j P)) .nil)) (nd ob56b (nd ob88b (lf ob152i) .nil) (nd ob120e (lf ob184r26b) .nil)))) (nd ob12k (nd ob20b (nd ob36b (nd ob68b (lf (ob132f P)) .nil) (nd ob100c (lf ob164j) .nil)) (nd ob52b (nd ob84b (lf ob148i) .nil) (nd ob116d (lf ob180r26a) .nil))) (nd ob28b (nd ob44b (nd ob76b (lf ob140g) .nil) (nd ob108d (lf ob172k) .nil)) (nd ob60b (nd ob92c (lf ob156j) .nil) (lf ob124e))))) (nd (boot_o_6 P) (nd (boot_o_10 P) (nd ob18b (nd ob34b (nd ob66b (lf ob130e) .nil) (nd ob98c (lf ob162j) .nil)) (nd ob50b (nd ob82b (lf ob146h) .nil) (nd ob114d (lf ob178k) .nil))) (nd ob26b (nd ob42b (nd ob74b (lf ob138g) .nil) (nd ob106d (lf ob170j) .nil)) (nd ob58b (nd ob90b (lf ob154i) .nil) (nd ob122e (lf v186) .nil)))) (nd ob14a (nd ob22b (nd ob38b (nd ob70b (lf ob134f) .nil) (nd ob102c (lf ob166j) .nil)) (nd ob54b (nd ob86b (lf ob150i) .nil) (nd ob118e (lf ob182r26b) .nil))) (nd ob30b (nd ob46b (nd ob78b (lf ob142g) .nil) (nd ob110d (lf ob174k) .nil)) (nd ob62b (nd ob94c (lf ob158j) .nil) (lf ob126e)))))))
noncomputable def sh26d (v186 v187 : Bool → Obj) (toks : Nat) (b : Bool) (w : World) (os : OsState) : SharedT := ⟨tr26d (v186 b) (v187 b) w.params, 188, bLife, .mk [], boot_drawn, toks, os⟩
noncomputable abbrev cd26d : Code := bl "set.update.loop" [(.ref 186), (.ref 187)]
noncomputable abbrev cc26d : Code := (bl "set.update.loop" [(.ref 186), (.ref 187)])
noncomputable def o26dn0v186 (b : Bool) : Obj := ⟨(.type "set"), none, (.set [sv 917505 479].toArray 1 ⟨7, [1].toArray, [].toArray, 0, !b, 0, true⟩), [].toArray⟩
noncomputable def o26dn0v187 (b : Bool) : Obj := ⟨(.type "list_iterator"), none, (.fields [(.ref 185), (.int 1 0)].toArray), [].toArray⟩
noncomputable def o26dn1v186 (b : Bool) : Obj := ⟨(.type "set"), none, (.set [sv 917536 485, sv 917505 479, sv 917538 487, sv 917539 488, sv 917537 486].toArray 6 ⟨31, [0, 1, 2, 3, 4].toArray, [].toArray, 0, !b, 1, true⟩), [].toArray⟩
noncomputable def o26dn1v187 (b : Bool) : Obj := ⟨(.type "list_iterator"), none, (.fields [(.ref 185), (.int 5 0)].toArray), [].toArray⟩
noncomputable def o26dn2v186 (b : Bool) : Obj := ⟨(.type "set"), none, (.set [sv 917536 485, sv 917505 479, sv 917538 487, sv 917539 488, sv 917537 486, sv 917540 489, sv 917541 490, sv 917542 491, sv 917543 492].toArray 10 ⟨31, [0, 1, 2, 3, 4, 5, 6, 7, 8].toArray, [].toArray, 0, !b, 1, true⟩), [].toArray⟩
noncomputable def o26dn2v187 (b : Bool) : Obj := ⟨(.type "list_iterator"), none, (.fields [(.ref 185), (.int 9 0)].toArray), [].toArray⟩
noncomputable def o26dn3v186 (b : Bool) : Obj := ⟨(.type "set"), none, (.set [sv 917536 485, sv 917505 479, sv 917538 487, sv 917539 488, sv 917537 486, sv 917540 489, sv 917541 490, sv 917542 491, sv 917543 492, sv 917544 493, sv 917545 494, sv 917546 495, sv 917547 496].toArray 14 ⟨31, [0, 1, 2, 3, 4, 5, 6, 7, 8, 9, 10, 11, 12].toArray, [].toArray, 0, !b, 1, true⟩), [].toArray⟩
noncomputable def o26dn3v187 (b : Bool) : Obj := ⟨(.type "list_iterator"), none, (.fields [(.ref 185), (.int 13 0)].toArray), [].toArray⟩
noncomputable def o26dn4v186 (b : Bool) : Obj := ⟨(.type "set"), none, (.set [sv 917536 485, sv 917505 479, sv 917538 487, sv 917539 488, sv 917537 486, sv 917540 489, sv 917541 490, sv 917542 491, sv 917543 492, sv 917544 493, sv 917545 494, sv 917546 495, sv 917547 496, sv 917548 497, sv 917549 498, sv 917550 499, sv 917551 500].toArray 18 ⟨31, [0, 1, 2, 3, 4, 5, 6, 7, 8, 9, 10, 11, 12, 13, 14, 15, 16].toArray, [].toArray, 0, !b, 1, true⟩), [].toArray⟩
noncomputable def o26dn4v187 (b : Bool) : Obj := ⟨(.type "list_iterator"), none, (.fields [(.ref 185), (.int 17 0)].toArray), [].toArray⟩
noncomputable def o26dn5v186 (b : Bool) : Obj := ⟨(.type "set"), none, (.set [sv 917505 479, sv 917536 485, sv 917537 486, sv 917538 487, sv 917539 488, sv 917540 489, sv 917541 490, sv 917542 491, sv 917543 492, sv 917544 493, sv 917545 494, sv 917546 495, sv 917547 496, sv 917548 497, sv 917549 498, sv 917550 499, sv 917551 500, sv 917552 501, sv 917553 502, sv 917554 503, sv 917555 504].toArray 23 ⟨127, [1, 32, 33, 34, 35, 36, 37, 38, 39, 40, 41, 42, 43, 44, 45, 46, 47, 48, 49, 50, 51].toArray, [].toArray, 0, !b, 2, true⟩), [].toArray⟩
noncomputable def o26dn5v187 (b : Bool) : Obj := ⟨(.type "list_iterator"), none, (.fields [(.ref 185), (.int 21 0)].toArray), [].toArray⟩
noncomputable def o26dn6v186 (b : Bool) : Obj := ⟨(.type "set"), none, (.set [sv 917505 479, sv 917536 485, sv 917537 486, sv 917538 487, sv 917539 488, sv 917540 489, sv 917541 490, sv 917542 491, sv 917543 492, sv 917544 493, sv 917545 494, sv 917546 495, sv 917547 496, sv 917548 497, sv 917549 498, sv 917550 499, sv 917551 500, sv 917552 501, sv 917553 502, sv 917554 503, sv 917555 504, sv 917556 505, sv 917557 506, sv 917558 507, sv 917559 508].toArray 27 ⟨127, [1, 32, 33, 34, 35, 36, 37, 38, 39, 40, 41, 42, 43, 44, 45, 46, 47, 48, 49, 50, 51, 52, 53, 54, 55].toArray, [].toArray, 0, !b, 2, true⟩), [].toArray⟩
noncomputable def o26dn6v187 (b : Bool) : Obj := ⟨(.type "list_iterator"), none, (.fields [(.ref 185), (.int 25 0)].toArray), [].toArray⟩
noncomputable def o26dn7v186 (b : Bool) : Obj := ⟨(.type "set"), none, (.set [sv 917505 479, sv 917536 485, sv 917537 486, sv 917538 487, sv 917539 488, sv 917540 489, sv 917541 490, sv 917542 491, sv 917543 492, sv 917544 493, sv 917545 494, sv 917546 495, sv 917547 496, sv 917548 497, sv 917549 498, sv 917550 499, sv 917551 500, sv 917552 501, sv 917553 502, sv 917554 503, sv 917555 504, sv 917556 505, sv 917557 506, sv 917558 507, sv 917559 508, sv 917560 509, sv 917561 510, sv 917562 511, sv 917563 512].toArray 31 ⟨127, [1, 32, 33, 34, 35, 36, 37, 38, 39, 40, 41, 42, 43, 44, 45, 46, 47, 48, 49, 50, 51, 52, 53, 54, 55, 56, 57, 58, 59].toArray, [].toArray, 0, !b, 2, true⟩), [].toArray⟩
noncomputable def o26dn7v187 (b : Bool) : Obj := ⟨(.type "list_iterator"), none, (.fields [(.ref 185), (.int 29 0)].toArray), [].toArray⟩
noncomputable def o26dn8v186 (b : Bool) : Obj := ⟨(.type "set"), none, (.set [sv 917505 479, sv 917536 485, sv 917537 486, sv 917538 487, sv 917539 488, sv 917540 489, sv 917541 490, sv 917542 491, sv 917543 492, sv 917544 493, sv 917545 494, sv 917546 495, sv 917547 496, sv 917548 497, sv 917549 498, sv 917550 499, sv 917551 500, sv 917552 501, sv 917553 502, sv 917554 503, sv 917555 504, sv 917556 505, sv 917557 506, sv 917558 507, sv 917559 508, sv 917560 509, sv 917561 510, sv 917562 511, sv 917563 512, sv 917564 513, sv 917565 514, sv 917566 515, sv 917567 516].toArray 35 ⟨127, [1, 32, 33, 34, 35, 36, 37, 38, 39, 40, 41, 42, 43, 44, 45, 46, 47, 48, 49, 50, 51, 52, 53, 54, 55, 56, 57, 58, 59, 60, 61, 62, 63].toArray, [].toArray, 0, !b, 2, true⟩), [].toArray⟩
noncomputable def o26dn8v187 (b : Bool) : Obj := ⟨(.type "list_iterator"), none, (.fields [(.ref 185), (.int 33 0)].toArray), [].toArray⟩
noncomputable def o26dn9v186 (b : Bool) : Obj := ⟨(.type "set"), none, (.set [sv 917505 479, sv 917536 485, sv 917537 486, sv 917538 487, sv 917539 488, sv 917540 489, sv 917541 490, sv 917542 491, sv 917543 492, sv 917544 493, sv 917545 494, sv 917546 495, sv 917547 496, sv 917548 497, sv 917549 498, sv 917550 499, sv 917551 500, sv 917552 501, sv 917553 502, sv 917554 503, sv 917555 504, sv 917556 505, sv 917557 506, sv 917558 507, sv 917559 508, sv 917560 509, sv 917561 510, sv 917562 511, sv 917563 512, sv 917564 513, sv 917565 514, sv 917566 515, sv 917567 516, sv 917568 517, sv 917569 518, sv 917570 519, sv 917571 520].toArray 39 ⟨127, [1, 32, 33, 34, 35, 36, 37, 38, 39, 40, 41, 42, 43, 44, 45, 46, 47, 48, 49, 50, 51, 52, 53, 54, 55, 56, 57, 58, 59, 60, 61, 62, 63, 64, 65, 66, 67].toArray, [].toArray, 0, !b, 2, true⟩), [].toArray⟩
noncomputable def o26dn9v187 (b : Bool) : Obj := ⟨(.type "list_iterator"), none, (.fields [(.ref 185), (.int 37 0)].toArray), [].toArray⟩
noncomputable def o26dn10v186 (b : Bool) : Obj := ⟨(.type "set"), none, (.set [sv 917505 479, sv 917536 485, sv 917537 486, sv 917538 487, sv 917539 488, sv 917540 489, sv 917541 490, sv 917542 491, sv 917543 492, sv 917544 493, sv 917545 494, sv 917546 495, sv 917547 496, sv 917548 497, sv 917549 498, sv 917550 499, sv 917551 500, sv 917552 501, sv 917553 502, sv 917554 503, sv 917555 504, sv 917556 505, sv 917557 506, sv 917558 507, sv 917559 508, sv 917560 509, sv 917561 510, sv 917562 511, sv 917563 512, sv 917564 513, sv 917565 514, sv 917566 515, sv 917567 516, sv 917568 517, sv 917569 518, sv 917570 519, sv 917571 520, sv 917572 521, sv 917573 522, sv 917574 523, sv 917575 524].toArray 43 ⟨127, [1, 32, 33, 34, 35, 36, 37, 38, 39, 40, 41, 42, 43, 44, 45, 46, 47, 48, 49, 50, 51, 52, 53, 54, 55, 56, 57, 58, 59, 60, 61, 62, 63, 64, 65, 66, 67, 68, 69, 70, 71].toArray, [].toArray, 0, !b, 2, true⟩), [].toArray⟩
noncomputable def o26dn10v187 (b : Bool) : Obj := ⟨(.type "list_iterator"), none, (.fields [(.ref 185), (.int 41 0)].toArray), [].toArray⟩
noncomputable def o26dn11v186 (b : Bool) : Obj := ⟨(.type "set"), none, (.set [sv 917505 479, sv 917536 485, sv 917537 486, sv 917538 487, sv 917539 488, sv 917540 489, sv 917541 490, sv 917542 491, sv 917543 492, sv 917544 493, sv 917545 494, sv 917546 495, sv 917547 496, sv 917548 497, sv 917549 498, sv 917550 499, sv 917551 500, sv 917552 501, sv 917553 502, sv 917554 503, sv 917555 504, sv 917556 505, sv 917557 506, sv 917558 507, sv 917559 508, sv 917560 509, sv 917561 510, sv 917562 511, sv 917563 512, sv 917564 513, sv 917565 514, sv 917566 515, sv 917567 516, sv 917568 517, sv 917569 518, sv 917570 519, sv 917571 520, sv 917572 521, sv 917573 522, sv 917574 523, sv 917575 524, sv 917576 525, sv 917577 526, sv 917578 527, sv 917579 528].toArray 47 ⟨127, [1, 32, 33, 34, 35, 36, 37, 38, 39, 40, 41, 42, 43, 44, 45, 46, 47, 48, 49, 50, 51, 52, 53, 54, 55, 56, 57, 58, 59, 60, 61, 62, 63, 64, 65, 66, 67, 68, 69, 70, 71, 72, 73, 74, 75].toArray, [].toArray, 0, !b, 2, true⟩), [].toArray⟩
noncomputable def o26dn11v187 (b : Bool) : Obj := ⟨(.type "list_iterator"), none, (.fields [(.ref 185), (.int 45 0)].toArray), [].toArray⟩
noncomputable def o26dn12v186 (b : Bool) : Obj := ⟨(.type "set"), none, (.set [sv 917505 479, sv 917536 485, sv 917537 486, sv 917538 487, sv 917539 488, sv 917540 489, sv 917541 490, sv 917542 491, sv 917543 492, sv 917544 493, sv 917545 494, sv 917546 495, sv 917547 496, sv 917548 497, sv 917549 498, sv 917550 499, sv 917551 500, sv 917552 501, sv 917553 502, sv 917554 503, sv 917555 504, sv 917556 505, sv 917557 506, sv 917558 507, sv 917559 508, sv 917560 509, sv 917561 510, sv 917562 511, sv 917563 512, sv 917564 513, sv 917565 514, sv 917566 515, sv 917567 516, sv 917568 517, sv 917569 518, sv 917570 519, sv 917571 520, sv 917572 521, sv 917573 522, sv 917574 523, sv 917575 524, sv 917576 525, sv 917577 526, sv 917578 527, sv 917579 528, sv 917580 529, sv 917581 530, sv 917582 531, sv 917583 532].toArray 51 ⟨127, [1, 32, 33, 34, 35, 36, 37, 38, 39, 40, 41, 42, 43, 44, 45, 46, 47, 48, 49, 50, 51, 52, 53, 54, 55, 56, 57, 58, 59, 60, 61, 62, 63, 64, 65, 66, 67, 68, 69, 70, 71, 72, 73, 74, 75, 76, 77, 78, 79].toArray, [].toArray, 0, !b, 2, true⟩), [].toArray⟩
noncomputable def o26dn12v187 (b : Bool) : Obj := ⟨(.type "list_iterator"), none, (.fields [(.ref 185), (.int 49 0)].toArray), [].toArray⟩
noncomputable def o26dn13v186 (b : Bool) : Obj := ⟨(.type "set"), none, (.set [sv 917505 479, sv 917536 485, sv 917537 486, sv 917538 487, sv 917539 488, sv 917540 489, sv 917541 490, sv 917542 491, sv 917543 492, sv 917544 493, sv 917545 494, sv 917546 495, sv 917547 496, sv 917548 497, sv 917549 498, sv 917550 499, sv 917551 500, sv 917552 501, sv 917553 502, sv 917554 503, sv 917555 504, sv 917556 505, sv 917557 506, sv 917558 507, sv 917559 508, sv 917560 509, sv 917561 510, sv 917562 511, sv 917563 512, sv 917564 513, sv 917565 514, sv 917566 515, sv 917567 516, sv 917568 517, sv 917569 518, sv 917570 519, sv 917571 520, sv 917572 521, sv 917573 522, sv 917574 523, sv 917575 524, sv 917576 525, sv 917577 526, sv 917578 527, sv 917579 528, sv 917580 529, sv 917581 530, sv 917582 531, sv 917583 532, sv 917584 533, sv 917585 534, sv 917586 535, sv 917587 536].toArray 55 ⟨127, [1, 32, 33, 34, 35, 36, 37, 38, 39, 40, 41, 42, 43, 44, 45, 46, 47, 48, 49, 50, 51, 52, 53, 54, 55, 56, 57, 58, 59, 60, 61, 62, 63, 64, 65, 66, 67, 68, 69, 70, 71, 72, 73, 74, 75, 76, 77, 78, 79, 80, 81, 82, 83].toArray, [].toArray, 0, !b, 2, true⟩), [].toArray⟩
noncomputable def o26dn13v187 (b : Bool) : Obj := ⟨(.type "list_iterator"), none, (.fields [(.ref 185), (.int 53 0)].toArray), [].toArray⟩
noncomputable def o26dn14v186 (b : Bool) : Obj := ⟨(.type "set"), none, (.set [sv 917505 479, sv 917536 485, sv 917537 486, sv 917538 487, sv 917539 488, sv 917540 489, sv 917541 490, sv 917542 491, sv 917543 492, sv 917544 493, sv 917545 494, sv 917546 495, sv 917547 496, sv 917548 497, sv 917549 498, sv 917550 499, sv 917551 500, sv 917552 501, sv 917553 502, sv 917554 503, sv 917555 504, sv 917556 505, sv 917557 506, sv 917558 507, sv 917559 508, sv 917560 509, sv 917561 510, sv 917562 511, sv 917563 512, sv 917564 513, sv 917565 514, sv 917566 515, sv 917567 516, sv 917568 517, sv 917569 518, sv 917570 519, sv 917571 520, sv 917572 521, sv 917573 522, sv 917574 523, sv 917575 524, sv 917576 525, sv 917577 526, sv 917578 527, sv 917579 528, sv 917580 529, sv 917581 530, sv 917582 531, sv 917583 532, sv 917584 533, sv 917585 534, sv 917586 535, sv 917587 536, sv 917588 537, sv 917589 538, sv 917590 539, sv 917591 540].toArray 59 ⟨127, [1, 32, 33, 34, 35, 36, 37, 38, 39, 40, 41, 42, 43, 44, 45, 46, 47, 48, 49, 50, 51, 52, 53, 54, 55, 56, 57, 58, 59, 60, 61, 62, 63, 64, 65, 66, 67, 68, 69, 70, 71, 72, 73, 74, 75, 76, 77, 78, 79, 80, 81, 82, 83, 84, 85, 86, 87].toArray, [].toArray, 0, !b, 2, true⟩), [].toArray⟩
noncomputable def o26dn14v187 (b : Bool) : Obj := ⟨(.type "list_iterator"), none, (.fields [(.ref 185), (.int 57 0)].toArray), [].toArray⟩
noncomputable def o26dn15v186 (b : Bool) : Obj := ⟨(.type "set"), none, (.set [sv 917505 479, sv 917536 485, sv 917537 486, sv 917538 487, sv 917539 488, sv 917540 489, sv 917541 490, sv 917542 491, sv 917543 492, sv 917544 493, sv 917545 494, sv 917546 495, sv 917547 496, sv 917548 497, sv 917549 498, sv 917550 499, sv 917551 500, sv 917552 501, sv 917553 502, sv 917554 503, sv 917555 504, sv 917556 505, sv 917557 506, sv 917558 507, sv 917559 508, sv 917560 509, sv 917561 510, sv 917562 511, sv 917563 512, sv 917564 513, sv 917565 514, sv 917566 515, sv 917567 516, sv 917568 517, sv 917569 518, sv 917570 519, sv 917571 520, sv 917572 521, sv 917573 522, sv 917574 523, sv 917575 524, sv 917576 525, sv 917577 526, sv 917578 527, sv 917579 528, sv 917580 529, sv 917581 530, sv 917582 531, sv 917583 532, sv 917584 533, sv 917585 534, sv 917586 535, sv 917587 536, sv 917588 537, sv 917589 538, sv 917590 539, sv 917591 540, sv 917592 541, sv 917593 542, sv 917594 543, sv 917595 544].toArray 63 ⟨127, [1, 32, 33, 34, 35, 36, 37, 38, 39, 40, 41, 42, 43, 44, 45, 46, 47, 48, 49, 50, 51, 52, 53, 54, 55, 56, 57, 58, 59, 60, 61, 62, 63, 64, 65, 66, 67, 68, 69, 70, 71, 72, 73, 74, 75, 76, 77, 78, 79, 80, 81, 82, 83, 84, 85, 86, 87, 88, 89, 90, 91].toArray, [].toArray, 0, !b, 2, true⟩), [].toArray⟩
noncomputable def o26dn15v187 (b : Bool) : Obj := ⟨(.type "list_iterator"), none, (.fields [(.ref 185), (.int 61 0)].toArray), [].toArray⟩
noncomputable def o26dn16v186 (b : Bool) : Obj := ⟨(.type "set"), none, (.set [sv 917505 479, sv 917536 485, sv 917537 486, sv 917538 487, sv 917539 488, sv 917540 489, sv 917541 490, sv 917542 491, sv 917543 492, sv 917544 493, sv 917545 494, sv 917546 495, sv 917547 496, sv 917548 497, sv 917549 498, sv 917550 499, sv 917551 500, sv 917552 501, sv 917553 502, sv 917554 503, sv 917555 504, sv 917556 505, sv 917557 506, sv 917558 507, sv 917559 508, sv 917560 509, sv 917561 510, sv 917562 511, sv 917563 512, sv 917564 513, sv 917565 514, sv 917566 515, sv 917567 516, sv 917568 517, sv 917569 518, sv 917570 519, sv 917571 520, sv 917572 521, sv 917573 522, sv 917574 523, sv 917575 524, sv 917576 525, sv 917577 526, sv 917578 527, sv 917579 528, sv 917580 529, sv 917581 530, sv 917582 531, sv 917583 532, sv 917584 533, sv 917585 534, sv 917586 535, sv 917587 536, sv 917588 537, sv 917589 538, sv 917590 539, sv 917591 540, sv 917592 541, sv 917593 542, sv 917594 543, sv 917595 544, sv 917596 545, sv 917597 546, sv 917598 547, sv 917599 548].toArray 67 ⟨127, [1, 32, 33, 34, 35, 36, 37, 38, 39, 40, 41, 42, 43, 44, 45, 46, 47, 48, 49, 50, 51, 52, 53, 54, 55, 56, 57, 58, 59, 60, 61, 62, 63, 64, 65, 66, 67, 68, 69, 70, 71, 72, 73, 74, 75, 76, 77, 78, 79, 80, 81, 82, 83, 84, 85, 86, 87, 88, 89, 90, 91, 92, 93, 94, 95].toArray, [].toArray, 0, !b, 2, true⟩), [].toArray⟩
noncomputable def o26dn16v187 (b : Bool) : Obj := ⟨(.type "list_iterator"), none, (.fields [(.ref 185), (.int 65 0)].toArray), [].toArray⟩
noncomputable def o26dn17v186 (b : Bool) : Obj := ⟨(.type "set"), none, (.set [sv 917505 479, sv 917536 485, sv 917537 486, sv 917538 487, sv 917539 488, sv 917540 489, sv 917541 490, sv 917542 491, sv 917543 492, sv 917544 493, sv 917545 494, sv 917546 495, sv 917547 496, sv 917548 497, sv 917549 498, sv 917550 499, sv 917551 500, sv 917552 501, sv 917553 502, sv 917554 503, sv 917555 504, sv 917556 505, sv 917557 506, sv 917558 507, sv 917559 508, sv 917560 509, sv 917561 510, sv 917562 511, sv 917563 512, sv 917564 513, sv 917565 514, sv 917566 515, sv 917567 516, sv 917568 517, sv 917569 518, sv 917570 519, sv 917571 520, sv 917572 521, sv 917573 522, sv 917574 523, sv 917575 524, sv 917576 525, sv 917577 526, sv 917578 527, sv 917579 528, sv 917580 529, sv 917581 530, sv 917582 531, sv 917583 532, sv 917584 533, sv 917585 534, sv 917586 535, sv 917587 536, sv 917588 537, sv 917589 538, sv 917590 539, sv 917591 540, sv 917592 541, sv 917593 542, sv 917594 543, sv 917595 544, sv 917596 545, sv 917597 546, sv 917598 547, sv 917599 548, sv 917600 549, sv 917601 550, sv 917602 551, sv 917603 552].toArray 71 ⟨127, [1, 32, 33, 34, 35, 36, 37, 38, 39, 40, 41, 42, 43, 44, 45, 46, 47, 48, 49, 50, 51, 52, 53, 54, 55, 56, 57, 58, 59, 60, 61, 62, 63, 64, 65, 66, 67, 68, 69, 70, 71, 72, 73, 74, 75, 76, 77, 78, 79, 80, 81, 82, 83, 84, 85, 86, 87, 88, 89, 90, 91, 92, 93, 94, 95, 96, 97, 98, 99].toArray, [].toArray, 0, !b, 2, true⟩), [].toArray⟩
noncomputable def o26dn17v187 (b : Bool) : Obj := ⟨(.type "list_iterator"), none, (.fields [(.ref 185), (.int 69 0)].toArray), [].toArray⟩
noncomputable def o26dn18v186 (b : Bool) : Obj := ⟨(.type "set"), none, (.set [sv 917505 479, sv 917536 485, sv 917537 486, sv 917538 487, sv 917539 488, sv 917540 489, sv 917541 490, sv 917542 491, sv 917543 492, sv 917544 493, sv 917545 494, sv 917546 495, sv 917547 496, sv 917548 497, sv 917549 498, sv 917550 499, sv 917551 500, sv 917552 501, sv 917553 502, sv 917554 503, sv 917555 504, sv 917556 505, sv 917557 506, sv 917558 507, sv 917559 508, sv 917560 509, sv 917561 510, sv 917562 511, sv 917563 512, sv 917564 513, sv 917565 514, sv 917566 515, sv 917567 516, sv 917568 517, sv 917569 518, sv 917570 519, sv 917571 520, sv 917572 521, sv 917573 522, sv 917574 523, sv 917575 524, sv 917576 525, sv 917577 526, sv 917578 527, sv 917579 528, sv 917580 529, sv 917581 530, sv 917582 531, sv 917583 532, sv 917584 533, sv 917585 534, sv 917586 535, sv 917587 536, sv 917588 537, sv 917589 538, sv 917590 539, sv 917591 540, sv 917592 541, sv 917593 542, sv 917594 543, sv 917595 544, sv 917596 545, sv 917597 546, sv 917598 547, sv 917599 548, sv 917600 549, sv 917601 550, sv 917602 551, sv 917603 552, sv 917604 553, sv 917605 554, sv 917606 555, sv 917607 556].toArray 75 ⟨127, [1, 32, 33, 34, 35, 36, 37, 38, 39, 40, 41, 42, 43, 44, 45, 46, 47, 48, 49, 50, 51, 52, 53, 54, 55, 56, 57, 58, 59, 60, 61, 62, 63, 64, 65, 66, 67, 68, 69, 70, 71, 72, 73, 74, 75, 76, 77, 78, 79, 80, 81, 82, 83, 84, 85, 86, 87, 88, 89, 90, 91, 92, 93, 94, 95, 96, 97, 98, 99, 100, 101, 102, 103].toArray, [].toArray, 0, !b, 2, true⟩), [].toArray⟩
noncomputable def o26dn18v187 (b : Bool) : Obj := ⟨(.type "list_iterator"), none, (.fields [(.ref 185), (.int 73 0)].toArray), [].toArray⟩
noncomputable def o26dn19v186 (b : Bool) : Obj := ⟨(.type "set"), none, (.set [sv 917505 479, sv 917536 485, sv 917537 486, sv 917538 487, sv 917539 488, sv 917540 489, sv 917541 490, sv 917542 491, sv 917543 492, sv 917544 493, sv 917545 494, sv 917546 495, sv 917547 496, sv 917548 497, sv 917549 498, sv 917550 499, sv 917551 500, sv 917552 501, sv 917553 502, sv 917554 503, sv 917555 504, sv 917556 505, sv 917557 506, sv 917558 507, sv 917559 508, sv 917560 509, sv 917561 510, sv 917562 511, sv 917563 512, sv 917564 513, sv 917565 514, sv 917566 515, sv 917567 516, sv 917568 517, sv 917569 518, sv 917570 519, sv 917571 520, sv 917572 521, sv 917573 522, sv 917574 523, sv 917575 524, sv 917576 525, sv 917577 526, sv 917578 527, sv 917579 528, sv 917580 529, sv 917581 530, sv 917582 531, sv 917583 532, sv 917584 533, sv 917585 534, sv 917586 535, sv 917587 536, sv 917588 537, sv 917589 538, sv 917590 539, sv 917591 540, sv 917592 541, sv 917593 542, sv 917594 543, sv 917595 544, sv 917596 545, sv 917597 546, sv 917598 547, sv 917599 548, sv 917600 549, sv 917601 550, sv 917602 551, sv 917603 552, sv 917604 553, sv 917605 554, sv 917606 555, sv 917607 556, sv 917608 557, sv 917609 558, sv 917610 559].toArray 78 ⟨127, [1, 32, 33, 34, 35, 36, 37, 38, 39, 40, 41, 42, 43, 44, 45, 46, 47, 48, 49, 50, 51, 52, 53, 54, 55, 56, 57, 58, 59, 60, 61, 62, 63, 64, 65, 66, 67, 68, 69, 70, 71, 72, 73, 74, 75, 76, 77, 78, 79, 80, 81, 82, 83, 84, 85, 86, 87, 88, 89, 90, 91, 92, 93, 94, 95, 96, 97, 98, 99, 100, 101, 102, 103, 104, 105, 106].toArray, [].toArray, 0, !b, 2, true⟩), [].toArray⟩
noncomputable def o26dn19v187 (b : Bool) : Obj := ⟨(.type "list_iterator"), none, (.fields [(.ref 185), (.int 76 0)].toArray), [].toArray⟩
noncomputable def ls26d (b : Bool) (w : World) (os : OsState) : LS := lsOf (goT (tGo tTab tp w 11 annT 1 7 ((sh26c o26cn0v186 581) b w os) (lpT cd26c cc26c ⟨67, 9, 67, 52⟩ (ls26c b w os))))
noncomputable def IN26d (b : Bool) (w : World) : Prop := ∀ os, tGo tTab tp w 11 annT 1 7 ((sh26c o26cn0v186 581) b w os) (lpT cd26c cc26c ⟨67, 9, 67, 52⟩ (ls26c b w os)) = some ((sh26d o26dn0v186 o26dn0v187 582) b w os, (lpT cd26d cc26d ⟨67, 9, 67, 52⟩ (ls26d b w os)))
theorem in26df : (∀ w, IN26d false (wa w)) ∧ ∀ w, IN26d false (wb w) := ⟨fun w os => by kernel_rfl, fun w os => by kernel_rfl⟩
theorem in26dt : (∀ w, IN26d true (wc w)) ∧ ∀ w, IN26d true (wd w) := ⟨fun w os => by kernel_rfl, fun w os => by kernel_rfl⟩
theorem in26d : B4 IN26d := ⟨in26df.1, in26df.2, in26dt.1, in26dt.2⟩
theorem tn26dn1 : B4 (Turn (sh26d o26dn0v186 o26dn0v187 582) cd26d ⟨67, 9, 67, 52⟩ 82 (sh26d o26dn1v186 o26dn1v187 586)) := ⟨fun w os x => by kernel_rfl, fun w os x => by kernel_rfl, fun w os x => by kernel_rfl, fun w os x => by kernel_rfl⟩
theorem tn26dn2 : B4 (Turn (sh26d o26dn1v186 o26dn1v187 586) cd26d ⟨67, 9, 67, 52⟩ 80 (sh26d o26dn2v186 o26dn2v187 590)) := ⟨fun w os x => by kernel_rfl, fun w os x => by kernel_rfl, fun w os x => by kernel_rfl, fun w os x => by kernel_rfl⟩
theorem tn26dn3 : B4 (Turn (sh26d o26dn2v186 o26dn2v187 590) cd26d ⟨67, 9, 67, 52⟩ 80 (sh26d o26dn3v186 o26dn3v187 594)) := ⟨fun w os x => by kernel_rfl, fun w os x => by kernel_rfl, fun w os x => by kernel_rfl, fun w os x => by kernel_rfl⟩
theorem tn26dn4 : B4 (Turn (sh26d o26dn3v186 o26dn3v187 594) cd26d ⟨67, 9, 67, 52⟩ 80 (sh26d o26dn4v186 o26dn4v187 598)) := ⟨fun w os x => by kernel_rfl, fun w os x => by kernel_rfl, fun w os x => by kernel_rfl, fun w os x => by kernel_rfl⟩
theorem tn26dn5 : B4 (Turn (sh26d o26dn4v186 o26dn4v187 598) cd26d ⟨67, 9, 67, 52⟩ 82 (sh26d o26dn5v186 o26dn5v187 602)) := ⟨fun w os x => by kernel_rfl, fun w os x => by kernel_rfl, fun w os x => by kernel_rfl, fun w os x => by kernel_rfl⟩
theorem tn26dn6 : B4 (Turn (sh26d o26dn5v186 o26dn5v187 602) cd26d ⟨67, 9, 67, 52⟩ 80 (sh26d o26dn6v186 o26dn6v187 606)) := ⟨fun w os x => by kernel_rfl, fun w os x => by kernel_rfl, fun w os x => by kernel_rfl, fun w os x => by kernel_rfl⟩
theorem tn26dn7 : B4 (Turn (sh26d o26dn6v186 o26dn6v187 606) cd26d ⟨67, 9, 67, 52⟩ 80 (sh26d o26dn7v186 o26dn7v187 610)) := ⟨fun w os x => by kernel_rfl, fun w os x => by kernel_rfl, fun w os x => by kernel_rfl, fun w os x => by kernel_rfl⟩
theorem tn26dn8 : B4 (Turn (sh26d o26dn7v186 o26dn7v187 610) cd26d ⟨67, 9, 67, 52⟩ 80 (sh26d o26dn8v186 o26dn8v187 614)) := ⟨fun w os x => by kernel_rfl, fun w os x => by kernel_rfl, fun w os x => by kernel_rfl, fun w os x => by kernel_rfl⟩
theorem tn26dn9 : B4 (Turn (sh26d o26dn8v186 o26dn8v187 614) cd26d ⟨67, 9, 67, 52⟩ 80 (sh26d o26dn9v186 o26dn9v187 618)) := ⟨fun w os x => by kernel_rfl, fun w os x => by kernel_rfl, fun w os x => by kernel_rfl, fun w os x => by kernel_rfl⟩
theorem tn26dn10 : B4 (Turn (sh26d o26dn9v186 o26dn9v187 618) cd26d ⟨67, 9, 67, 52⟩ 80 (sh26d o26dn10v186 o26dn10v187 622)) := ⟨fun w os x => by kernel_rfl, fun w os x => by kernel_rfl, fun w os x => by kernel_rfl, fun w os x => by kernel_rfl⟩
theorem tn26dn11 : B4 (Turn (sh26d o26dn10v186 o26dn10v187 622) cd26d ⟨67, 9, 67, 52⟩ 80 (sh26d o26dn11v186 o26dn11v187 626)) := ⟨fun w os x => by kernel_rfl, fun w os x => by kernel_rfl, fun w os x => by kernel_rfl, fun w os x => by kernel_rfl⟩
theorem tn26dn12 : B4 (Turn (sh26d o26dn11v186 o26dn11v187 626) cd26d ⟨67, 9, 67, 52⟩ 80 (sh26d o26dn12v186 o26dn12v187 630)) := ⟨fun w os x => by kernel_rfl, fun w os x => by kernel_rfl, fun w os x => by kernel_rfl, fun w os x => by kernel_rfl⟩
theorem tn26dn13 : B4 (Turn (sh26d o26dn12v186 o26dn12v187 630) cd26d ⟨67, 9, 67, 52⟩ 80 (sh26d o26dn13v186 o26dn13v187 634)) := ⟨fun w os x => by kernel_rfl, fun w os x => by kernel_rfl, fun w os x => by kernel_rfl, fun w os x => by kernel_rfl⟩
theorem tn26dn14 : B4 (Turn (sh26d o26dn13v186 o26dn13v187 634) cd26d ⟨67, 9, 67, 52⟩ 80 (sh26d o26dn14v186 o26dn14v187 638)) := ⟨fun w os x => by kernel_rfl, fun w os x => by kernel_rfl, fun w os x => by kernel_rfl, fun w os x => by kernel_rfl⟩
theorem tn26dn15 : B4 (Turn (sh26d o26dn14v186 o26dn14v187 638) cd26d ⟨67, 9, 67, 52⟩ 80 (sh26d o26dn15v186 o26dn15v187 642)) := ⟨fun w os x => by kernel_rfl, fun w os x => by kernel_rfl, fun w os x => by kernel_rfl, fun w os x => by kernel_rfl⟩
theorem tn26dn16 : B4 (Turn (sh26d o26dn15v186 o26dn15v187 642) cd26d ⟨67, 9, 67, 52⟩ 80 (sh26d o26dn16v186 o26dn16v187 646)) := ⟨fun w os x => by kernel_rfl, fun w os x => by kernel_rfl, fun w os x => by kernel_rfl, fun w os x => by kernel_rfl⟩
theorem tn26dn17 : B4 (Turn (sh26d o26dn16v186 o26dn16v187 646) cd26d ⟨67, 9, 67, 52⟩ 80 (sh26d o26dn17v186 o26dn17v187 650)) := ⟨fun w os x => by kernel_rfl, fun w os x => by kernel_rfl, fun w os x => by kernel_rfl, fun w os x => by kernel_rfl⟩
theorem tn26dn18 : B4 (Turn (sh26d o26dn17v186 o26dn17v187 650) cd26d ⟨67, 9, 67, 52⟩ 80 (sh26d o26dn18v186 o26dn18v187 654)) := ⟨fun w os x => by kernel_rfl, fun w os x => by kernel_rfl, fun w os x => by kernel_rfl, fun w os x => by kernel_rfl⟩
theorem tn26dn19 : B4 (Turn (sh26d o26dn18v186 o26dn18v187 654) cd26d ⟨67, 9, 67, 52⟩ 60 (sh26d o26dn19v186 o26dn19v187 657)) := ⟨fun w os x => by kernel_rfl, fun w os x => by kernel_rfl, fun w os x => by kernel_rfl, fun w os x => by kernel_rfl⟩
noncomputable def ob187r26e : Obj := ⟨(.type "list_iterator"), none, (.fields [(.ref 185), (.int 77 0)].toArray), [].toArray⟩
noncomputable def tr26e (v186 : Obj) (P : Params) : BT := (nd (boot_o_0 P) (nd (boot_o_1 P) (nd (ob3k P) (nd (boot_o_7 P) (nd ob15b (nd ob31b (nd ob63b (lf ob127e) .nil) (nd ob95c (lf ob159j) .nil)) (nd ob47b (nd ob79b (lf ob143h) .nil) (nd ob111d (lf ob175k) .nil))) (nd ob23b (nd ob39b (nd ob71b (lf ob135f) .nil) (nd ob103c (lf ob167j) .nil)) (nd ob55b (nd ob87b (lf ob151i) .nil) (nd ob119e (lf ob183r26b) .nil)))) (nd ob11a (nd ob19b (nd ob35b (nd ob67b (lf ob131f) .nil) (nd ob99c (lf ob163j) .nil)) (nd ob51b (nd ob83b (lf ob147h) .nil) (nd ob115d (lf ob179r26a) .nil))) (nd ob27b (nd ob43b (nd ob75b (lf ob139g) .nil) (nd ob107d (lf ob171j) .nil)) (nd ob59b (nd ob91b (lf ob155j) .nil) (nd ob123e (lf ob187r26e) .nil))))) (nd (boot_o_5 P) (nd (boot_o_9 P) (nd ob17b (nd ob33b (nd ob65b (lf ob129e) .nil) (nd ob97c (lf ob161j) .nil)) (nd ob49b (nd ob81b (lf ob145h) .nil) (nd (ob113d P) (lf ob177k) .nil))) (nd ob25b (nd ob41b (nd ob73b (lf ob137g) .nil) (nd ob105c (lf ob169j) .nil)) (nd ob57b (nd ob89b (lf ob153i) .nil) (nd ob121e (lf ob185r26b) .nil)))) (nd ob13a (nd ob21b (nd ob37b (nd ob69b (lf ob133f) .nil) (nd ob101c (lf ob165j) .nil)) (nd ob53b (nd ob85b (lf ob149i) .nil) (nd ob117e (lf ob181r26b) .nil))) (nd ob29b (nd ob45b (nd ob77b (lf ob141g) .nil) (nd ob109d (lf ob173k) .nil)) (nd ob61b (nd ob93c (lf ob157j) .nil) (lf ob125e)))))) (nd (boot_o_2 P) (nd (boot_o_4 P) (nd (boot_o_8 P) (nd ob16b (nd ob32b (nd ob64b (lf ob128e) .nil) (nd ob96c (lf ob160j) .nil)) (nd ob48b (nd ob80b (lf (ob144h P)) .nil) (nd ob112d (lf ob176k) .nil))) (nd ob24b (nd ob40b (nd ob72b (lf ob136g) .nil) (nd ob104c (lf (ob168j P)) .nil)) (nd ob56b (nd ob88b (lf ob152i) .nil) (nd ob120e (lf ob184r26b) .nil)))) (nd ob12k (nd ob20b (nd ob36b (nd ob68b (lf (ob132f P)) .nil) (nd ob100c (lf ob164j) .nil)) (nd ob52b (nd ob84b (lf ob148i) .nil) (nd ob116d (lf ob180r26a) .nil))) (nd ob28b (nd ob44b (nd ob76b (lf ob140g) .nil) (nd ob108d (lf ob172k) .nil)) (nd ob60b (nd ob92c (lf ob156j) .nil) (lf ob124e))))) (nd (boot_o_6 P) (nd (boot_o_10 P) (nd ob18b (nd ob34b (nd ob66b (lf ob130e) .nil) (nd ob98c (lf ob162j) .nil)) (nd ob50b (nd ob82b (lf ob146h) .nil) (nd ob114d (lf ob178k) .nil))) (nd ob26b (nd ob42b (nd ob74b (lf ob138g) .nil) (nd ob106d (lf ob170j) .nil)) (nd ob58b (nd ob90b (lf ob154i) .nil) (nd ob122e (lf v186) .nil)))) (nd ob14a (nd ob22b (nd ob38b (nd ob70b (lf ob134f) .nil) (nd ob102c (lf ob166j) .nil)) (nd ob54b (nd ob86b (lf ob150i) .nil) (nd ob118e (lf ob182r26b) .nil))) (nd ob30b (nd ob46b (nd ob78b (lf ob142g) .nil) (nd ob110d (lf ob174k) .nil)) (nd ob62b (nd ob94c (lf ob158j) .nil) (lf ob126e)))))))
noncomputable def sh26e (v186 : Bool → Obj) (toks : Nat) (b : Bool) (w : World) (os : OsState) : SharedT := ⟨tr26e (v186 b) w.params, 188, bLife, .mk [], boot_drawn, toks, os⟩
noncomputable abbrev cd26e : Code := bl "int.__hash__" [(.int 917611 560)]
noncomputable abbrev cc26e : Code := (.call (.builtin "int.__hash__") ⟨[(.int 917611 560)], []⟩)
noncomputable def o26en0v186 (b : Bool) : Obj := ⟨(.type "set"), none, (.set [sv 917505 479, sv 917536 485, sv 917537 486, sv 917538 487, sv 917539 488, sv 917540 489, sv 917541 490, sv 917542 491, sv 917543 492, sv 917544 493, sv 917545 494, sv 917546 495, sv 917547 496, sv 917548 497, sv 917549 498, sv 917550 499, sv 917551 500, sv 917552 501, sv 917553 502, sv 917554 503, sv 917555 504, sv 917556 505, sv 917557 506, sv 917558 507, sv 917559 508, sv 917560 509, sv 917561 510, sv 917562 511, sv 917563 512, sv 917564 513, sv 917565 514, sv 917566 515, sv 917567 516, sv 917568 517, sv 917569 518, sv 917570 519, sv 917571 520, sv 917572 521, sv 917573 522, sv 917574 523, sv 917575 524, sv 917576 525, sv 917577 526, sv 917578 527, sv 917579 528, sv 917580 529, sv 917581 530, sv 917582 531, sv 917583 532, sv 917584 533, sv 917585 534, sv 917586 535, sv 917587 536, sv 917588 537, sv 917589 538, sv 917590 539, sv 917591 540, sv 917592 541, sv 917593 542, sv 917594 543, sv 917595 544, sv 917596 545, sv 917597 546, sv 917598 547, sv 917599 548, sv 917600 549, sv 917601 550, sv 917602 551, sv 917603 552, sv 917604 553, sv 917605 554, sv 917606 555, sv 917607 556, sv 917608 557, sv 917609 558, sv 917610 559].toArray 78 ⟨127, [1, 32, 33, 34, 35, 36, 37, 38, 39, 40, 41, 42, 43, 44, 45, 46, 47, 48, 49, 50, 51, 52, 53, 54, 55, 56, 57, 58, 59, 60, 61, 62, 63, 64, 65, 66, 67, 68, 69, 70, 71, 72, 73, 74, 75, 76, 77, 78, 79, 80, 81, 82, 83, 84, 85, 86, 87, 88, 89, 90, 91, 92, 93, 94, 95, 96, 97, 98, 99, 100, 101, 102, 103, 104, 105, 106].toArray, [].toArray, 0, !b, 2, true⟩), [].toArray⟩
noncomputable def ls26e (b : Bool) (w : World) (os : OsState) : LS := lsOf (goT (tGo tTab tp w 11 annT 1 13 ((sh26d o26dn19v186 o26dn19v187 657) b w os) (lpT cd26d cc26d ⟨67, 9, 67, 52⟩ (ls26d b w os))))
noncomputable def IN26e (b : Bool) (w : World) : Prop := ∀ os, tGo tTab tp w 11 annT 1 13 ((sh26d o26dn19v186 o26dn19v187 657) b w os) (lpT cd26d cc26d ⟨67, 9, 67, 52⟩ (ls26d b w os)) = some ((sh26e o26en0v186 657) b w os, (lpT cd26e cc26e ⟨67, 9, 67, 52⟩ (ls26e b w os)))
theorem in26ef : (∀ w, IN26e false (wa w)) ∧ ∀ w, IN26e false (wb w) := ⟨fun w os => by kernel_rfl, fun w os => by kernel_rfl⟩
theorem in26et : (∀ w, IN26e true (wc w)) ∧ ∀ w, IN26e true (wd w) := ⟨fun w os => by kernel_rfl, fun w os => by kernel_rfl⟩
theorem in26e : B4 IN26e := ⟨in26ef.1, in26ef.2, in26et.1, in26et.2⟩
noncomputable def tr26f (v186 v187 : Obj) (P : Params) : BT := (nd (boot_o_0 P) (nd (boot_o_1 P) (nd (ob3k P) (nd (boot_o_7 P) (nd ob15b (nd ob31b (nd ob63b (lf ob127e) .nil) (nd ob95c (lf ob159j) .nil)) (nd ob47b (nd ob79b (lf ob143h) .nil) (nd ob111d (lf ob175k) .nil))) (nd ob23b (nd ob39b (nd ob71b (lf ob135f) .nil) (nd ob103c (lf ob167j) .nil)) (nd ob55b (nd ob87b (lf ob151i) .nil) (nd ob119e (lf ob183r26b) .nil)))) (nd ob11a (nd ob19b (nd ob35b (nd ob67b (lf ob131f) .nil) (nd ob99c (lf ob163j) .nil)) (nd ob51b (nd ob83b (lf ob147h) .nil) (nd ob115d (lf ob179r26a) .nil))) (nd ob27b (nd ob43b (nd ob75b (lf ob139g) .nil) (nd ob107d (lf ob171j) .nil)) (nd ob59b (nd ob91b (lf ob155j) .nil) (nd ob123e (lf v187) .nil))))) (nd (boot_o_5 P) (nd (boot_o_9 P) (nd ob17b (nd ob33b (nd ob65b (lf ob129e) .nil) (nd ob97c (lf ob161j) .nil)) (nd ob49b (nd ob81b (lf ob145h) .nil) (nd (ob113d P) (lf ob177k) .nil))) (nd ob25b (nd ob41b (nd ob73b (lf ob137g) .nil) (nd ob105c (lf ob169j) .nil)) (nd ob57b (nd ob89b (lf ob153i) .nil) (nd ob121e (lf ob185r26b) .nil)))) (nd ob13a (nd ob21b (nd ob37b (nd ob69b (lf ob133f) .nil) (nd ob101c (lf ob165j) .nil)) (nd ob53b (nd ob85b (lf ob149i) .nil) (nd ob117e (lf ob181r26b) .nil))) (nd ob29b (nd ob45b (nd ob77b (lf ob141g) .nil) (nd ob109d (lf ob173k) .nil)) (nd ob61b (nd ob93c (lf ob157j) .nil) (lf ob125e)))))) (nd (boot_o_2 P) (nd (boot_o_4 P) (nd (boot_o_8 P) (nd ob16b (nd ob32b (nd ob64b (lf ob128e) .nil) (nd ob96c (lf ob160j) .nil)) (nd ob48b (nd ob80b (lf (ob144h P)) .nil) (nd ob112d (lf ob176k) .nil))) (nd ob24b (nd ob40b (nd ob72b (lf ob136g) .nil) (nd ob104c (lf (ob168j P)) .nil)) (nd ob56b (nd ob88b (lf ob152i) .nil) (nd ob120e (lf ob184r26b) .nil)))) (nd ob12k (nd ob20b (nd ob36b (nd ob68b (lf (ob132f P)) .nil) (nd ob100c (lf ob164j) .nil)) (nd ob52b (nd ob84b (lf ob148i) .nil) (nd ob116d (lf ob180r26a) .nil))) (nd ob28b (nd ob44b (nd ob76b (lf ob140g) .nil) (nd ob108d (lf ob172k) .nil)) (nd ob60b (nd ob92c (lf ob156j) .nil) (lf ob124e))))) (nd (boot_o_6 P) (nd (boot_o_10 P) (nd ob18b (nd ob34b (nd ob66b (lf ob130e) .nil) (nd ob98c (lf ob162j) .nil)) (nd ob50b (nd ob82b (lf ob146h) .nil) (nd ob114d (lf ob178k) .nil))) (nd ob26b (nd ob42b (nd ob74b (lf ob138g) .nil) (nd ob106d (lf ob170j) .nil)) (nd ob58b (nd ob90b (lf ob154i) .nil) (nd ob122e (lf v186) .nil)))) (nd ob14a (nd ob22b (nd ob38b (nd ob70b (lf ob134f) .nil) (nd ob102c (lf ob166j) .nil)) (nd ob54b (nd ob86b (lf ob150i) .nil) (nd ob118e (lf ob182r26b) .nil))) (nd ob30b (nd ob46b (nd ob78b (lf ob142g) .nil) (nd ob110d (lf ob174k) .nil)) (nd ob62b (nd ob94c (lf ob158j) .nil) (lf ob126e)))))))
noncomputable def sh26f (v186 v187 : Bool → Obj) (toks : Nat) (b : Bool) (w : World) (os : OsState) : SharedT := ⟨tr26f (v186 b) (v187 b) w.params, 188, bLife, .mk [], boot_drawn, toks, os⟩
noncomputable abbrev cd26f : Code := bl "set.update.loop" [(.ref 186), (.ref 187)]
noncomputable abbrev cc26f : Code := (bl "set.update.loop" [(.ref 186), (.ref 187)])
noncomputable def o26fn0v186 (b : Bool) : Obj := ⟨(.type "set"), none, (.set [sv 917505 479, sv 917536 485, sv 917537 486, sv 917538 487, sv 917539 488, sv 917540 489, sv 917541 490, sv 917542 491, sv 917543 492, sv 917544 493, sv 917545 494, sv 917546 495, sv 917547 496, sv 917548 497, sv 917549 498, sv 917550 499, sv 917551 500, sv 917552 501, sv 917553 502, sv 917554 503, sv 917555 504, sv 917556 505, sv 917557 506, sv 917558 507, sv 917559 508, sv 917560 509, sv 917561 510, sv 917562 511, sv 917563 512, sv 917564 513, sv 917565 514, sv 917566 515, sv 917567 516, sv 917568 517, sv 917569 518, sv 917570 519, sv 917571 520, sv 917572 521, sv 917573 522, sv 917574 523, sv 917575 524, sv 917576 525, sv 917577 526, sv 917578 527, sv 917579 528, sv 917580 529, sv 917581 530, sv 917582 531, sv 917583 532, sv 917584 533, sv 917585 534, sv 917586 535, sv 917587 536, sv 917588 537, sv 917589 538, sv 917590 539, sv 917591 540, sv 917592 541, sv 917593 542, sv 917594 543, sv 917595 544, sv 917596 545, sv 917597 546, sv 917598 547, sv 917599 548, sv 917600 549, sv 917601 550, sv 917602 551, sv 917603 552, sv 917604 553, sv 917605 554, sv 917606 555, sv 917607 556, sv 917608 557, sv 917609 558, sv 917610 559, sv 917611 560].toArray 80 ⟨511, [1, 32, 33, 34, 35, 36, 37, 38, 39, 40, 41, 42, 43, 44, 45, 46, 47, 48, 49, 50, 51, 52, 53, 54, 55, 56, 57, 58, 59, 60, 61, 62, 63, 64, 65, 66, 67, 68, 69, 70, 71, 72, 73, 74, 75, 76, 77, 78, 79, 80, 81, 82, 83, 84, 85, 86, 87, 88, 89, 90, 91, 92, 93, 94, 95, 96, 97, 98, 99, 100, 101, 102, 103, 104, 105, 106, 107].toArray, [].toArray, 0, !b, 3, true⟩), [].toArray⟩
noncomputable def o26fn0v187 (b : Bool) : Obj := ⟨(.type "list_iterator"), none, (.fields [(.ref 185), (.int 77 0)].toArray), [].toArray⟩
noncomputable def o26fn1v186 (b : Bool) : Obj := ⟨(.type "set"), none, (.set [sv 917505 479, sv 917536 485, sv 917537 486, sv 917538 487, sv 917539 488, sv 917540 489, sv 917541 490, sv 917542 491, sv 917543 492, sv 917544 493, sv 917545 494, sv 917546 495, sv 917547 496, sv 917548 497, sv 917549 498, sv 917550 499, sv 917551 500, sv 917552 501, sv 917553 502, sv 917554 503, sv 917555 504, sv 917556 505, sv 917557 506, sv 917558 507, sv 917559 508, sv 917560 509, sv 917561 510, sv 917562 511, sv 917563 512, sv 917564 513, sv 917565 514, sv 917566 515, sv 917567 516, sv 917568 517, sv 917569 518, sv 917570 519, sv 917571 520, sv 917572 521, sv 917573 522, sv 917574 523, sv 917575 524, sv 917576 525, sv 917577 526, sv 917578 527, sv 917579 528, sv 917580 529, sv 917581 530, sv 917582 531, sv 917583 532, sv 917584 533, sv 917585 534, sv 917586 535, sv 917587 536, sv 917588 537, sv 917589 538, sv 917590 539, sv 917591 540, sv 917592 541, sv 917593 542, sv 917594 543, sv 917595 544, sv 917596 545, sv 917597 546, sv 917598 547, sv 917599 548, sv 917600 549, sv 917601 550, sv 917602 551, sv 917603 552, sv 917604 553, sv 917605 554, sv 917606 555, sv 917607 556, sv 917608 557, sv 917609 558, sv 917610 559, sv 917611 560, sv 917612 561, sv 917613 562, sv 917614 563, sv 917615 564].toArray 84 ⟨511, [1, 32, 33, 34, 35, 36, 37, 38, 39, 40, 41, 42, 43, 44, 45, 46, 47, 48, 49, 50, 51, 52, 53, 54, 55, 56, 57, 58, 59, 60, 61, 62, 63, 64, 65, 66, 67, 68, 69, 70, 71, 72, 73, 74, 75, 76, 77, 78, 79, 80, 81, 82, 83, 84, 85, 86, 87, 88, 89, 90, 91, 92, 93, 94, 95, 96, 97, 98, 99, 100, 101, 102, 103, 104, 105, 106, 107, 108, 109, 110, 111].toArray, [].toArray, 0, !b, 3, true⟩), [].toArray⟩
noncomputable def o26fn1v187 (b : Bool) : Obj := ⟨(.type "list_iterator"), none, (.fields [(.ref 185), (.int 81 0)].toArray), [].toArray⟩
noncomputable def o26fn2v186 (b : Bool) : Obj := ⟨(.type "set"), none, (.set [sv 917505 479, sv 917536 485, sv 917537 486, sv 917538 487, sv 917539 488, sv 917540 489, sv 917541 490, sv 917542 491, sv 917543 492, sv 917544 493, sv 917545 494, sv 917546 495, sv 917547 496, sv 917548 497, sv 917549 498, sv 917550 499, sv 917551 500, sv 917552 501, sv 917553 502, sv 917554 503, sv 917555 504, sv 917556 505, sv 917557 506, sv 917558 507, sv 917559 508, sv 917560 509, sv 917561 510, sv 917562 511, sv 917563 512, sv 917564 513, sv 917565 514, sv 917566 515, sv 917567 516, sv 917568 517, sv 917569 518, sv 917570 519, sv 917571 520, sv 917572 521, sv 917573 522, sv 917574 523, sv 917575 524, sv 917576 525, sv 917577 526, sv 917578 527, sv 917579 528, sv 917580 529, sv 917581 530, sv 917582 531, sv 917583 532, sv 917584 533, sv 917585 534, sv 917586 535, sv 917587 536, sv 917588 537, sv 917589 538, sv 917590 539, sv 917591 540, sv 917592 541, sv 917593 542, sv 917594 543, sv 917595 544, sv 917596 545, sv 917597 546, sv 917598 547, sv 917599 548, sv 917600 549, sv 917601 550, sv 917602 551, sv 917603 552, sv 917604 553, sv 917605 554, sv 917606 555, sv 917607 556, sv 917608 557, sv 917609 558, sv 917610 559, sv 917611 560, sv 917612 561, sv 917613 562, sv 917614 563, sv 917615 564, sv 917616 565, sv 917617 566, sv 917618 567, sv 917619 568].toArray 88 ⟨511, [1, 32, 33, 34, 35, 36, 37, 38, 39, 40, 41, 42, 43, 44, 45, 46, 47, 48, 49, 50, 51, 52, 53, 54, 55, 56, 57, 58, 59, 60, 61, 62, 63, 64, 65, 66, 67, 68, 69, 70, 71, 72, 73, 74, 75, 76, 77, 78, 79, 80, 81, 82, 83, 84, 85, 86, 87, 88, 89, 90, 91, 92, 93, 94, 95, 96, 97, 98, 99, 100, 101, 102, 103, 104, 105, 106, 107, 108, 109, 110, 111, 112, 113, 114, 115].toArray, [].toArray, 0, !b, 3, true⟩), [].toArray⟩
noncomputable def o26fn2v187 (b : Bool) : Obj := ⟨(.type "list_iterator"), none, (.fields [(.ref 185), (.int 85 0)].toArray), [].toArray⟩
noncomputable def o26fn3v186 (b : Bool) : Obj := ⟨(.type "set"), none, (.set [sv 917505 479, sv 917536 485, sv 917537 486, sv 917538 487, sv 917539 488, sv 917540 489, sv 917541 490, sv 917542 491, sv 917543 492, sv 917544 493, sv 917545 494, sv 917546 495, sv 917547 496, sv 917548 497, sv 917549 498, sv 917550 499, sv 917551 500, sv 917552 501, sv 917553 502, sv 917554 503, sv 917555 504, sv 917556 505, sv 917557 506, sv 917558 507, sv 917559 508, sv 917560 509, sv 917561 510, sv 917562 511, sv 917563 512, sv 917564 513, sv 917565 514, sv 917566 515, sv 917567 516, sv 917568 517, sv 917569 518, sv 917570 519, sv 917571 520, sv 917572 521, sv 917573 522, sv 917574 523, sv 917575 524, sv 917576 525, sv 917577 526, sv 917578 527, sv 917579 528, sv 917580 529, sv 917581 530, sv 917582 531, sv 917583 532, sv 917584 533, sv 917585 534, sv 917586 535, sv 917587 536, sv 917588 537, sv 917589 538, sv 917590 539, sv 917591 540, sv 917592 541, sv 917593 542, sv 917594 543, sv 917595 544, sv 917596 545, sv 917597 546, sv 917598 547, sv 917599 548, sv 917600 549, sv 917601 550, sv 917602 551, sv 917603 552, sv 917604 553, sv 917605 554, sv 917606 555, sv 917607 556, sv 917608 557, sv 917609 558, sv 917610 559, sv 917611 560, sv 917612 561, sv 917613 562, sv 917614 563, sv 917615 564, sv 917616 565, sv 917617 566, sv 917618 567, sv 917619 568, sv 917620 569, sv 917621 570, sv 917622 571, sv 917623 572].toArray 92 ⟨511, [1, 32, 33, 34, 35, 36, 37, 38, 39, 40, 41, 42, 43, 44, 45, 46, 47, 48, 49, 50, 51, 52, 53, 54, 55, 56, 57, 58, 59, 60, 61, 62, 63, 64, 65, 66, 67, 68, 69, 70, 71, 72, 73, 74, 75, 76, 77, 78, 79, 80, 81, 82, 83, 84, 85, 86, 87, 88, 89, 90, 91, 92, 93, 94, 95, 96, 97, 98, 99, 100, 101, 102, 103, 104, 105, 106, 107, 108, 109, 110, 111, 112, 113, 114, 115, 116, 117, 118, 119].toArray, [].toArray, 0, !b, 3, true⟩), [].toArray⟩
noncomputable def o26fn3v187 (b : Bool) : Obj := ⟨(.type "list_iterator"), none, (.fields [(.ref 185), (.int 89 0)].toArray), [].toArray⟩
noncomputable def o26fn4v186 (b : Bool) : Obj := ⟨(.type "set"), none, (.set [sv 917505 479, sv 917536 485, sv 917537 486, sv 917538 487, sv 917539 488, sv 917540 489, sv 917541 490, sv 917542 491, sv 917543 492, sv 917544 493, sv 917545 494, sv 917546 495, sv 917547 496, sv 917548 497, sv 917549 498, sv 917550 499, sv 917551 500, sv 917552 501, sv 917553 502, sv 917554 503, sv 917555 504, sv 917556 505, sv 917557 506, sv 917558 507, sv 917559 508, sv 917560 509, sv 917561 510, sv 917562 511, sv 917563 512, sv 917564 513, sv 917565 514, sv 917566 515, sv 917567 516, sv 917568 517, sv 917569 518, sv 917570 519, sv 917571 520, sv 917572 521, sv 917573 522, sv 917574 523, sv 917575 524, sv 917576 525, sv 917577 526, sv 917578 527, sv 917579 528, sv 917580 529, sv 917581 530, sv 917582 531, sv 917583 532, sv 917584 533, sv 917585 534, sv 917586 535, sv 917587 536, sv 917588 537, sv 917589 538, sv 917590 539, sv 917591 540, sv 917592 541, sv 917593 542, sv 917594 543, sv 917595 544, sv 917596 545, sv 917597 546, sv 917598 547, sv 917599 548, sv 917600 549, sv 917601 550, sv 917602 551, sv 917603 552, sv 917604 553, sv 917605 554, sv 917606 555, sv 917607 556, sv 917608 557, sv 917609 558, sv 917610 559, sv 917611 560, sv 917612 561, sv 917613 562, sv 917614 563, sv 917615 564, sv 917616 565, sv 917617 566, sv 917618 567, sv 917619 568, sv 917620 569, sv 917621 570, sv 917622 571, sv 917623 572, sv 917624 573, sv 917625 574, sv 917626 575, sv 917627 576].toArray 96 ⟨511, [1, 32, 33, 34, 35, 36, 37, 38, 39, 40, 41, 42, 43, 44, 45, 46, 47, 48, 49, 50, 51, 52, 53, 54, 55, 56, 57, 58, 59, 60, 61, 62, 63, 64, 65, 66, 67, 68, 69, 70, 71, 72, 73, 74, 75, 76, 77, 78, 79, 80, 81, 82, 83, 84, 85, 86, 87, 88, 89, 90, 91, 92, 93, 94, 95, 96, 97, 98, 99, 100, 101, 102, 103, 104, 105, 106, 107, 108, 109, 110, 111, 112, 113, 114, 115, 116, 117, 118, 119, 120, 121, 122, 123].toArray, [].toArray, 0, !b, 3, true⟩), [].toArray⟩
noncomputable def o26fn4v187 (b : Bool) : Obj := ⟨(.type "list_iterator"), none, (.fields [(.ref 185), (.int 93 0)].toArray), [].toArray⟩
noncomputable def o26fn5v186 (b : Bool) : Obj := ⟨(.type "set"), none, (.set [sv 917505 479, sv 917536 485, sv 917537 486, sv 917538 487, sv 917539 488, sv 917540 489, sv 917541 490, sv 917542 491, sv 917543 492, sv 917544 493, sv 917545 494, sv 917546 495, sv 917547 496, sv 917548 497, sv 917549 498, sv 917550 499, sv 917551 500, sv 917552 501, sv 917553 502, sv 917554 503, sv 917555 504, sv 917556 505, sv 917557 506, sv 917558 507, sv 917559 508, sv 917560 509, sv 917561 510, sv 917562 511, sv 917563 512, sv 917564 513, sv 917565 514, sv 917566 515, sv 917567 516, sv 917568 517, sv 917569 518, sv 917570 519, sv 917571 520, sv 917572 521, sv 917573 522, sv 917574 523, sv 917575 524, sv 917576 525, sv 917577 526, sv 917578 527, sv 917579 528, sv 917580 529, sv 917581 530, sv 917582 531, sv 917583 532, sv 917584 533, sv 917585 534, sv 917586 535, sv 917587 536, sv 917588 537, sv 917589 538, sv 917590 539, sv 917591 540, sv 917592 541, sv 917593 542, sv 917594 543, sv 917595 544, sv 917596 545, sv 917597 546, sv 917598 547, sv 917599 548, sv 917600 549, sv 917601 550, sv 917602 551, sv 917603 552, sv 917604 553, sv 917605 554, sv 917606 555, sv 917607 556, sv 917608 557, sv 917609 558, sv 917610 559, sv 917611 560, sv 917612 561, sv 917613 562, sv 917614 563, sv 917615 564, sv 917616 565, sv 917617 566, sv 917618 567, sv 917619 568, sv 917620 569, sv 917621 570, sv 917622 571, sv 917623 572, sv 917624 573, sv 917625 574, sv 917626 575, sv 917627 576, sv 917628 577, sv 917629 578, sv 917630 579, sv 917631 580].toArray 100 ⟨511, [1, 32, 33, 34, 35, 36, 37, 38, 39, 40, 41, 42, 43, 44, 45, 46, 47, 48, 49, 50, 51, 52, 53, 54, 55, 56, 57, 58, 59, 60, 61, 62, 63, 64, 65, 66, 67, 68, 69, 70, 71, 72, 73, 74, 75, 76, 77, 78, 79, 80, 81, 82, 83, 84, 85, 86, 87, 88, 89, 90, 91, 92, 93, 94, 95, 96, 97, 98, 99, 100, 101, 102, 103, 104, 105, 106, 107, 108, 109, 110, 111, 112, 113, 114, 115, 116, 117, 118, 119, 120, 121, 122, 123, 124, 125, 126, 127].toArray, [].toArray, 0, !b, 3, true⟩), [].toArray⟩
noncomputable def o26fn5v187 (b : Bool) : Obj := ⟨(.type "list_iterator"), none, (.fields [(.ref 185), (.int 97 0)].toArray), [].toArray⟩
noncomputable def IN26f (b : Bool) (w : World) : Prop := ∀ os, tGo tTab tp w 11 annT 1 9 ((sh26e o26en0v186 657) b w os) (lpT cd26e cc26e ⟨67, 9, 67, 52⟩ (ls26e b w os)) = some ((sh26f o26fn0v186 o26fn0v187 658) b w os, (lpT cd26f cc26f ⟨67, 9, 67, 52⟩ (ls26d b w os)))
theorem in26ff : (∀ w, IN26f false (wa w)) ∧ ∀ w, IN26f false (wb w) := ⟨fun w os => by kernel_rfl, fun w os => by kernel_rfl⟩
theorem in26ft : (∀ w, IN26f true (wc w)) ∧ ∀ w, IN26f true (wd w) := ⟨fun w os => by kernel_rfl, fun w os => by kernel_rfl⟩
theorem in26f : B4 IN26f := ⟨in26ff.1, in26ff.2, in26ft.1, in26ft.2⟩
theorem tn26fn1 : B4 (Turn (sh26f o26fn0v186 o26fn0v187 658) cd26f ⟨67, 9, 67, 52⟩ 80 (sh26f o26fn1v186 o26fn1v187 662)) := ⟨fun w os x => by kernel_rfl, fun w os x => by kernel_rfl, fun w os x => by kernel_rfl, fun w os x => by kernel_rfl⟩
theorem tn26fn2 : B4 (Turn (sh26f o26fn1v186 o26fn1v187 662) cd26f ⟨67, 9, 67, 52⟩ 80 (sh26f o26fn2v186 o26fn2v187 666)) := ⟨fun w os x => by kernel_rfl, fun w os x => by kernel_rfl, fun w os x => by kernel_rfl, fun w os x => by kernel_rfl⟩
theorem tn26fn3 : B4 (Turn (sh26f o26fn2v186 o26fn2v187 666) cd26f ⟨67, 9, 67, 52⟩ 80 (sh26f o26fn3v186 o26fn3v187 670)) := ⟨fun w os x => by kernel_rfl, fun w os x => by kernel_rfl, fun w os x => by kernel_rfl, fun w os x => by kernel_rfl⟩
theorem tn26fn4 : B4 (Turn (sh26f o26fn3v186 o26fn3v187 670) cd26f ⟨67, 9, 67, 52⟩ 80 (sh26f o26fn4v186 o26fn4v187 674)) := ⟨fun w os x => by kernel_rfl, fun w os x => by kernel_rfl, fun w os x => by kernel_rfl, fun w os x => by kernel_rfl⟩
theorem tn26fn5 : B4 (Turn (sh26f o26fn4v186 o26fn4v187 674) cd26f ⟨67, 9, 67, 52⟩ 80 (sh26f o26fn5v186 o26fn5v187 678)) := ⟨fun w os x => by kernel_rfl, fun w os x => by kernel_rfl, fun w os x => by kernel_rfl, fun w os x => by kernel_rfl⟩
theorem end26 : B4 fun b w => ∀ os, tRun tTab tp w 11 annT 1 28 ((sh26f o26fn5v186 o26fn5v187 678) b w os) (lpT cd26f cc26f ⟨67, 9, 67, 52⟩ (ls26d b w os)) = some (.next, shl w os, cdT, ⟨67, 0, 67, 6⟩) := ⟨fun w os => by kernel_rfl, fun w os => by kernel_rfl, fun w os => by kernel_rfl, fun w os => by kernel_rfl⟩
theorem pc26 (w : World) (os : OsState) : sgR w 3751 (shk w os).abs (thT (sgT 26 1) ⟨65, 0, 66, 30⟩) = some (.next, (shl w os).abs, cdT, ⟨67, 0, 67, 6⟩) := by
  have e0 := (end26).imp fun b w h os => run_T (h os)
  have e1 := ((tn26fn5).and e0).imp fun b w h os => seg_go (N := 28) (go_T (h.1 os _)) (h.2 os)
  have e2 := ((tn26fn4).and e1).imp fun b w h os => seg_go (N := 108) (go_T (h.1 os _)) (h.2 os)
  have e3 := ((tn26fn3).and e2).imp fun b w h os => seg_go (N := 188) (go_T (h.1 os _)) (h.2 os)
  have e4 := ((tn26fn2).and e3).imp fun b w h os => seg_go (N := 268) (go_T (h.1 os _)) (h.2 os)
  have e5 := ((tn26fn1).and e4).imp fun b w h os => seg_go (N := 348) (go_T (h.1 os _)) (h.2 os)
  have e6 := ((in26f).and e5).imp fun b w h os => seg_go (N := 428) (go_T (h.1 os)) (h.2 os)
  have e7 := ((in26e).and e6).imp fun b w h os => seg_go (N := 437) (go_T (h.1 os)) (h.2 os)
  have e8 := ((tn26dn19).and e7).imp fun b w h os => seg_go (N := 450) (go_T (h.1 os _)) (h.2 os)
  have e9 := ((tn26dn18).and e8).imp fun b w h os => seg_go (N := 510) (go_T (h.1 os _)) (h.2 os)
  have e10 := ((tn26dn17).and e9).imp fun b w h os => seg_go (N := 590) (go_T (h.1 os _)) (h.2 os)
  have e11 := ((tn26dn16).and e10).imp fun b w h os => seg_go (N := 670) (go_T (h.1 os _)) (h.2 os)
  have e12 := ((tn26dn15).and e11).imp fun b w h os => seg_go (N := 750) (go_T (h.1 os _)) (h.2 os)
  have e13 := ((tn26dn14).and e12).imp fun b w h os => seg_go (N := 830) (go_T (h.1 os _)) (h.2 os)
  have e14 := ((tn26dn13).and e13).imp fun b w h os => seg_go (N := 910) (go_T (h.1 os _)) (h.2 os)
  have e15 := ((tn26dn12).and e14).imp fun b w h os => seg_go (N := 990) (go_T (h.1 os _)) (h.2 os)
  have e16 := ((tn26dn11).and e15).imp fun b w h os => seg_go (N := 1070) (go_T (h.1 os _)) (h.2 os)
  have e17 := ((tn26dn10).and e16).imp fun b w h os => seg_go (N := 1150) (go_T (h.1 os _)) (h.2 os)
  have e18 := ((tn26dn9).and e17).imp fun b w h os => seg_go (N := 1230) (go_T (h.1 os _)) (h.2 os)
  have e19 := ((tn26dn8).and e18).imp fun b w h os => seg_go (N := 1310) (go_T (h.1 os _)) (h.2 os)
  have e20 := ((tn26dn7).and e19).imp fun b w h os => seg_go (N := 1390) (go_T (h.1 os _)) (h.2 os)
  have e21 := ((tn26dn6).and e20).imp fun b w h os => seg_go (N := 1470) (go_T (h.1 os _)) (h.2 os)
  have e22 := ((tn26dn5).and e21).imp fun b w h os => seg_go (N := 1550) (go_T (h.1 os _)) (h.2 os)
  have e23 := ((tn26dn4).and e22).imp fun b w h os => seg_go (N := 1632) (go_T (h.1 os _)) (h.2 os)
  have e24 := ((tn26dn3).and e23).imp fun b w h os => seg_go (N := 1712) (go_T (h.1 os _)) (h.2 os)
  have e25 := ((tn26dn2).and e24).imp fun b w h os => seg_go (N := 1792) (go_T (h.1 os _)) (h.2 os)
  have e26 := ((tn26dn1).and e25).imp fun b w h os => seg_go (N := 1872) (go_T (h.1 os _)) (h.2 os)
  have e27 := ((in26d).and e26).imp fun b w h os => seg_go (N := 1954) (go_T (h.1 os)) (h.2 os)
  have e28 := ((in26c).and e27).imp fun b w h os => seg_go (N := 1961) (go_T (h.1 os)) (h.2 os)
  have e29 := ((in26b).and e28).imp fun b w h os => seg_go (N := 1989) (go_T (h.1 os)) (h.2 os)
  have e30 := ((tn26an3).and e29).imp fun b w h os => seg_go (N := 2033) (go_T (h.1 os _)) (h.2 os)
  have e31 := ((tn26an2).and e30).imp fun b w h os => seg_go (N := 2560) (go_T (h.1 os _)) (h.2 os)
  have e32 := ((tn26an1).and e31).imp fun b w h os => seg_go (N := 3104) (go_T (h.1 os _)) (h.2 os)
  have e33 := ((in26a).and e32).imp fun b w h os => seg_go (N := 3648) (go_T (h.1 os)) (h.2 os)
  exact (e33).all w os
end Mine
end
end
section
open PySem PySem.W PyProof.Rows
namespace Mine
theorem grA (w : World) (os : OsState) : tRun tTab tp w 11 annT 1 349 (sha w os) (thT (sgT 0 13) ⟨0, 0, 0, 0⟩) = some (.next, shb w os, cdT, ⟨31, 0, 31, 8⟩) := by kernel_rfl
theorem grB (w : World) (os : OsState) : tRun tTab tp w 11 annT 1 80 (shb w os) (thT (sgT 13 4) ⟨31, 0, 31, 8⟩) = some (.next, shc w os, cdT, ⟨47, 0, 47, 8⟩) := by kernel_rfl
theorem grC (w : World) (os : OsState) : tRun tTab tp w 11 annT 1 60 (shd w os) (thT (sgT 18 2) ⟨48, 0, 48, 6⟩) = some (.next, she w os, cdT, ⟨51, 0, 57, 46⟩) := by kernel_rfl
theorem grD (w : World) (os : OsState) : tRun tTab tp w 11 annT 1 30 (shf w os) (thT (sgT 21 1) ⟨58, 0, 58, 6⟩) = some (.next, shg w os, cdT, ⟨59, 0, 60, 30⟩) := by kernel_rfl
theorem grE (w : World) (os : OsState) : tRun tTab tp w 11 annT 1 30 (shh w os) (thT (sgT 23 1) ⟨61, 0, 61, 6⟩) = some (.next, shi w os, cdT, ⟨62, 0, 63, 30⟩) := by kernel_rfl
theorem grF (w : World) (os : OsState) : tRun tTab tp w 11 annT 1 30 (shj w os) (thT (sgT 25 1) ⟨64, 0, 64, 6⟩) = some (.next, shk w os, cdT, ⟨65, 0, 66, 30⟩) := by kernel_rfl
theorem grG (w : World) (os : OsState) : tRun tTab tp w 11 annT 1 329 (shl w os) (thT (sgT 27 12) ⟨67, 0, 67, 6⟩) = some (.next, shm w os, cdT, ⟨139, 0, 165, 78⟩) := by kernel_rfl
end Mine
end
section
open PySem PySem.W PyProof.Rows
section
namespace Mine
noncomputable abbrev tTop := @PySem.W.Fast.tw15667345088766844465
noncomputable abbrev tDen := @PySem.W.Fast.tw11892475500146522536
theorem tTop_eq : @topGo = @tTop := PySem.W.Fast.te15667345088766844465
theorem tDen_eq : @denote = @tDen := PySem.W.Fast.te11892475500146522536
theorem pre0 (w : World) (os : OsState) : tTop tTab tp w 11 annT 12 ⟨boot_heap w.params, .mk [], boot_drawn, boot_toks, os⟩ (topStub tp) = some ((sha w os).abs, ⟨tDen tTab cdT, cdT, p00, [topFrame p00]⟩) := by kernel_rfl
theorem block0 (w : World) (os : OsState) : segRun treeTable tp w 11 annT 1 1 (sha w os).abs (blockOf (behindTheImports tp) envT cdT p00 [topFrame p00]) = some (.next, (sha w os).abs, cdT, p00) := by kernel_rfl
theorem fin0 (w : World) (os : OsState) : topRun treeTable tp w 11 annT 2 (shm w os).abs ⟨doneF .next, cdT, ⟨139, 0, 165, 78⟩, [topFrame p00]⟩ = some (shm w os).abs := by kernel_rfl
theorem body0 : behindTheImports tp = sgT 0 13 ++ (sgT 13 4 ++ (sgT 17 1 ++ (sgT 18 2 ++ (sgT 20 1 ++ (sgT 21 1 ++ (sgT 22 1 ++ (sgT 23 1 ++ (sgT 24 1 ++ (sgT 25 1 ++ (sgT 26 1 ++ (sgT 27 12 ++ []))))))))))) := by kernel_rfl
theorem open0 : ∀ w : World, (fencedOpening treeTable tp w 10000).map (fun s => (s.heap, s.gens, s.drawn, s.toks)) = some (boot_heap w.params, Array.mk [], boot_drawn, boot_toks) :=
  boot_open (p := tp) (N := 10000) (by kernel_rfl) (by decide +kernel) (fun s => by kernel_rfl)
theorem size0 (w : World) : ((boot_heap w.params).isNs mainGlobals && (Array.mk ([] : List GenState)).size == 0, (boot_heap w.params).objs.size, (boot_heap w.params).nsMap mainGlobals "__annotations__") = (true, 11, annT) := by kernel_rfl
theorem pieces_T (sts : List Stmt) (q : Pos) : thT sts q = piecesOf sts envT cdT q [topFrame p00] := by
  show (⟨(tExecs sts envT).wrap doneF deadEnd id id, cdT, q, [topFrame p00]⟩ : Thread) = _
  rw [← tExecs_eq]
end Mine
end
end
section
open PySem PySem.W PyProof.Rows
section
namespace Mine
theorem gr_of {w : World} {n : Nat} {s s' : SharedT} {sts : List Stmt} {q q' : Pos} (h : tRun tTab tp w 11 annT 1 n s (thT sts q) = some (.next, s', cdT, q')) : segRun treeTable tp w 11 annT 1 n s.abs (piecesOf sts envT cdT q [topFrame p00]) = some (.next, s'.abs, cdT, q') := by
  rw [← pieces_T]
  exact run_T h
theorem pc_of {w : World} {n : Nat} {s s' : Shared} {sts : List Stmt} {q q' : Pos} (h : sgR w n s (thT sts q) = some (.next, s', cdT, q')) : segRun treeTable tp w 11 annT 1 n s (piecesOf sts envT cdT q [topFrame p00]) = some (.next, s', cdT, q') := by
  rw [← pieces_T]
  exact h
noncomputable abbrev s00 (w : World) (os : OsState) : Shared := ⟨boot_heap w.params, .mk [], boot_drawn, boot_toks, os⟩
theorem run0 (w : World) (os : OsState) : topRun treeTable tp w 11 annT 7009 (s00 w os) (topStub tp) = some (shm w os).abs := by
  have k := fin0 w os
  have k := piece_nil (env := envT) (q := p00) k
  have k := piece_app (gr_of (grG w os)) k
  have k := piece_app (pc_of (pc26 w os)) k
  have k := piece_app (gr_of (grF w os)) k
  have k := piece_app (pc_of (pc24 w os)) k
  have k := piece_app (gr_of (grE w os)) k
  have k := piece_app (pc_of (pc22 w os)) k
  have k := piece_app (gr_of (grD w os)) k
  have k := piece_app (pc_of (pc20 w os)) k
  have k := piece_app (gr_of (grC w os)) k
  have k := piece_app (pc_of (pc17 w os)) k
  have k := piece_app (gr_of (grB w os)) k
  have k := piece_app (gr_of (grA w os)) k
  rw [← body0] at k
  have k := piece_block (block0 w os) k
  have e : topGo treeTable tp w 11 annT 12 (s00 w os) (topStub tp) = some ((sha w os).abs, ⟨denote treeTable cdT, cdT, p00, [topFrame p00]⟩) := by
    rw [tTop_eq, tTab_eq, tDen_eq]
    exact pre0 w os
  exact go_top e k
end Mine
end
end
section
open PySem PySem.W PyProof.Rows
section
namespace Mine
noncomputable def qT : Program := { tp with main := { tp.main with body := [stT 38] } }
noncomputable def looseT : List PySem.Str := [cs [108, 116], cs [110, 101], cs [103, 116], cs [110, 111, 116, 95], cs [110, 101, 103], cs [115, 117, 98], cs [99, 111, 110, 116, 97, 105, 110, 115], cs [99, 111, 117, 110, 116, 79, 102], cs [105, 97, 100, 100], cs [105, 109, 117, 108], cs [105, 115, 117, 98], cs [95, 115, 116, 114, 99, 111, 108, 108], cs [67, 72, 65, 82, 95, 77, 65, 88], cs [95, 103, 114, 111, 117, 112, 105, 110, 103, 95, 105, 110, 116, 101, 114, 118, 97, 108, 115], cs [98, 49, 95, 115, 101, 116], cs [105, 110, 95, 116, 97, 98, 108, 101, 95, 98, 49], cs [105, 110, 95, 116, 97, 98, 108, 101, 95, 99, 52], cs [99, 54, 95, 115, 101, 116], cs [105, 110, 95, 116, 97, 98, 108, 101, 95, 99, 54], cs [99, 55, 95, 115, 101, 116], cs [105, 110, 95, 116, 97, 98, 108, 101, 95, 99, 55], cs [99, 56, 95, 115, 101, 116], cs [105, 110, 95, 116, 97, 98, 108, 101, 95, 99, 56], cs [99, 57, 95, 115, 101, 116], cs [105, 110, 95, 116, 97, 98, 108, 101, 95, 99, 57], cs [95, 108, 97, 119, 95, 110, 117, 109, 98, 101, 114, 115], cs [95, 108, 97, 119, 95, 104, 111, 108, 100, 115], cs [95, 108, 97, 119, 95, 117, 110, 108, 105, 107, 101], cs [95, 108, 97, 119, 95, 109, 97, 114, 107, 115], cs [95, 108, 97, 119, 95, 116, 105, 109, 101, 115], cs [95, 108, 97, 119, 95, 112, 114, 111, 100, 117, 99, 116], cs [95, 108, 97, 119, 95, 114, 101, 115, 116], cs [95, 108, 97, 119, 95, 99, 104, 97, 105, 110], cs [95, 108, 97, 119, 95, 99, 104, 97, 110, 103, 101, 115]]
noncomputable abbrev sEnd (w : World) (os : OsState) : Shared := ⟨hpm w.params, .mk [], boot_drawn, 768, os⟩
theorem end_eq (w : World) (os : OsState) : (shm w os).abs = sEnd w os := by kernel_rfl
theorem look1 (w : World) (os : OsState) : (staticsOk (importedModules tp.main.body) (boot_heap w.params) (hpm w.params) && namesBound tp (hpm w.params) && gensDone (sEnd w os) && laidKept (boot_heap w.params) (hpm w.params)) = true := by kernel_rfl
noncomputable abbrev tSeen := @PySem.W.Fast.tw4187177175401517315
theorem tSeen_eq : @openSeen = @tSeen := PySem.W.Fast.te4187177175401517315
theorem look2 (w : World) (os : OsState) : tSeen qT looseT (importedModules tp.main.body) (fun _ => true) true (sEnd w os) = openGood qT looseT := by kernel_rfl
end Mine
end
end
section
open PySem PySem.W PyProof.Rows
section
namespace Mine
noncomputable def fragT (P : Params) : Frag := [(21, ob21b), (20, ob20b), (28, ob28b), (27, ob27b), (35, ob35b), (34, ob34b), (42, ob42b), (41, ob41b), (49, ob49b), (48, ob48b), (56, ob56b), (55, ob55b), (63, ob63b), (62, ob62b), (70, ob70b), (69, ob69b), (77, ob77b), (76, ob76b), (84, ob84b), (83, ob83b), (91, ob91b), (90, ob90b), (98, ob98c), (97, ob97c), (105, ob105c), (104, ob104c), (123, ob123e), (122, ob122e), (130, ob130e), (129, ob129e), (142, ob142g), (141, ob141g), (154, ob154i), (153, ob153i), (178, ob178k), (177, ob177k), (196, ob196m), (195, ob195m), (201, ob201m), (200, ob200m), (208, ob208m), (207, ob207m), (215, ob215m), (214, ob214m), (222, ob222m), (221, ob221m), (229, ob229m), (228, ob228m), (236, ob236m), (235, ob235m), (241, ob241m), (240, ob240m), (246, ob246m), (245, ob245m), (251, ob251m), (250, ob250m), (256, ob256m), (255, ob255m), (113, ob113d P), (132, ob132f P), (144, ob144h P), (168, ob168j P), (186, ob186l P)]
theorem frag_in (P : Params) : (fragT P).In (hpm P) := Frag.in_of (as := [21, 20, 28, 27, 35, 34, 42, 41, 49, 48, 56, 55, 63, 62, 70, 69, 77, 76, 84, 83, 91, 90, 98, 97, 105, 104, 123, 122, 130, 129, 142, 141, 154, 153, 178, 177, 196, 195, 201, 200, 208, 207, 215, 214, 222, 221, 229, 228, 236, 235, 241, 240, 246, 245, 251, 250, 256, 255, 113, 132, 144, 168, 186]) (by kernel_rfl) (by kernel_rfl)
noncomputable def fdOf (o : Obj) : FuncData := match o.data with
  | .func f => f
  | _ => ⟨⟨#[]⟩, ⟨#[]⟩, default, .stmts [], default, 0, [], .none, .none, .none, .none, none, .none, .none, 0⟩
noncomputable def vsOf (o : Obj) : Array PySem.Value := match o.data with
  | .fields vs => vs
  | _ => #[]
noncomputable def tkOf (o : Obj) : Nat := match ((vsOf o)[1]? : Option PySem.Value) with
  | some (PySem.Value.str _ t) => t
  | _ => 0
theorem boT_eq (k : Nat) : boT k = bodyAt k := by unfold boT bodyAt stT stAt; rw [tp_eq] <;> rfl
theorem arT_eq (k : Nat) : arT k = argsAt k := by unfold arT argsAt stT stAt; rw [tp_eq] <;> rfl
theorem scT_eq (k : Nat) : scT k = scopeAt k := by unfold scT scopeAt stT stAt; rw [tp_eq] <;> rfl
theorem mkDef {P : Params} {mg mb : PySem.Str → Option PySem.Value} (k : Nat) (a c : Addr) (ob oc : Obj) (h1 : (fragT P).lookup a = some ob) (h2 : (fragT P).lookup c = some oc) (hd : ob.data = .func (fdOf ob)) (hc : (fdOf ob).code = .ref c) (hv : oc.data = .fields (vsOf oc))
    (hw : (vsOf oc)[1]? = some (.str (fdOf ob).qualname (tkOf oc))) (hb : (fdOf ob).body = .stmts (boT k)) (hp : (fdOf ob).params = arT k) (hs : (fdOf ob).scope = scT k) (hg : (fdOf ob).globals = mainGlobals) (hcl : (fdOf ob).closure = []) (hdf : (fdOf ob).defaults = .none)
    (hbl : (fdOf ob).builtins = builtinsNs) : DefAt ⟨mg, mb, fragT P⟩ k a ob (fdOf ob) :=
  ⟨fun h B => B.has a ob h1, hd, fun h B => ⟨c, oc, vsOf oc, tkOf oc, hc, B.has c oc h2, hv, hw⟩, by rw [hb, boT_eq], by rw [hp, arT_eq], by rw [hs, scT_eq], hg, hcl, hdf, hbl⟩
theorem dk1 (P : Params) (mg mb : PySem.Str → Option PySem.Value) : DefAt ⟨mg, mb, fragT P⟩ 1 21 ob21b (fdOf ob21b) := mkDef 1 21 20 ob21b ob20b (by kernel_rfl) (by kernel_rfl) (by kernel_rfl) (by kernel_rfl) (by kernel_rfl) (by kernel_rfl) (by kernel_rfl) (by kernel_rfl) (by kernel_rfl) (by kernel_rfl) (by kernel_rfl) (by kernel_rfl) (by kernel_rfl)
theorem dk2 (P : Params) (mg mb : PySem.Str → Option PySem.Value) : DefAt ⟨mg, mb, fragT P⟩ 2 28 ob28b (fdOf ob28b) := mkDef 2 28 27 ob28b ob27b (by kernel_rfl) (by kernel_rfl) (by kernel_rfl) (by kernel_rfl) (by kernel_rfl) (by kernel_rfl) (by kernel_rfl) (by kernel_rfl) (by kernel_rfl) (by kernel_rfl) (by kernel_rfl) (by kernel_rfl) (by kernel_rfl)
theorem dk3 (P : Params) (mg mb : PySem.Str → Option PySem.Value) : DefAt ⟨mg, mb, fragT P⟩ 3 35 ob35b (fdOf ob35b) := mkDef 3 35 34 ob35b ob34b (by kernel_rfl) (by kernel_rfl) (by kernel_rfl) (by kernel_rfl) (by kernel_rfl) (by kernel_rfl) (by kernel_rfl) (by kernel_rfl) (by kernel_rfl) (by kernel_rfl) (by kernel_rfl) (by kernel_rfl) (by kernel_rfl)
theorem dk4 (P : Params) (mg mb : PySem.Str → Option PySem.Value) : DefAt ⟨mg, mb, fragT P⟩ 4 42 ob42b (fdOf ob42b) := mkDef 4 42 41 ob42b ob41b (by kernel_rfl) (by kernel_rfl) (by kernel_rfl) (by kernel_rfl) (by kernel_rfl) (by kernel_rfl) (by kernel_rfl) (by kernel_rfl) (by kernel_rfl) (by kernel_rfl) (by kernel_rfl) (by kernel_rfl) (by kernel_rfl)
theorem dk5 (P : Params) (mg mb : PySem.Str → Option PySem.Value) : DefAt ⟨mg, mb, fragT P⟩ 5 49 ob49b (fdOf ob49b) := mkDef 5 49 48 ob49b ob48b (by kernel_rfl) (by kernel_rfl) (by kernel_rfl) (by kernel_rfl) (by kernel_rfl) (by kernel_rfl) (by kernel_rfl) (by kernel_rfl) (by kernel_rfl) (by kernel_rfl) (by kernel_rfl) (by kernel_rfl) (by kernel_rfl)
theorem dk6 (P : Params) (mg mb : PySem.Str → Option PySem.Value) : DefAt ⟨mg, mb, fragT P⟩ 6 56 ob56b (fdOf ob56b) := mkDef 6 56 55 ob56b ob55b (by kernel_rfl) (by kernel_rfl) (by kernel_rfl) (by kernel_rfl) (by kernel_rfl) (by kernel_rfl) (by kernel_rfl) (by kernel_rfl) (by kernel_rfl) (by kernel_rfl) (by kernel_rfl) (by kernel_rfl) (by kernel_rfl)
theorem dk7 (P : Params) (mg mb : PySem.Str → Option PySem.Value) : DefAt ⟨mg, mb, fragT P⟩ 7 63 ob63b (fdOf ob63b) := mkDef 7 63 62 ob63b ob62b (by kernel_rfl) (by kernel_rfl) (by kernel_rfl) (by kernel_rfl) (by kernel_rfl) (by kernel_rfl) (by kernel_rfl) (by kernel_rfl) (by kernel_rfl) (by kernel_rfl) (by kernel_rfl) (by kernel_rfl) (by kernel_rfl)
theorem dk8 (P : Params) (mg mb : PySem.Str → Option PySem.Value) : DefAt ⟨mg, mb, fragT P⟩ 8 70 ob70b (fdOf ob70b) := mkDef 8 70 69 ob70b ob69b (by kernel_rfl) (by kernel_rfl) (by kernel_rfl) (by kernel_rfl) (by kernel_rfl) (by kernel_rfl) (by kernel_rfl) (by kernel_rfl) (by kernel_rfl) (by kernel_rfl) (by kernel_rfl) (by kernel_rfl) (by kernel_rfl)
theorem dk9 (P : Params) (mg mb : PySem.Str → Option PySem.Value) : DefAt ⟨mg, mb, fragT P⟩ 9 77 ob77b (fdOf ob77b) := mkDef 9 77 76 ob77b ob76b (by kernel_rfl) (by kernel_rfl) (by kernel_rfl) (by kernel_rfl) (by kernel_rfl) (by kernel_rfl) (by kernel_rfl) (by kernel_rfl) (by kernel_rfl) (by kernel_rfl) (by kernel_rfl) (by kernel_rfl) (by kernel_rfl)
theorem dk10 (P : Params) (mg mb : PySem.Str → Option PySem.Value) : DefAt ⟨mg, mb, fragT P⟩ 10 84 ob84b (fdOf ob84b) := mkDef 10 84 83 ob84b ob83b (by kernel_rfl) (by kernel_rfl) (by kernel_rfl) (by kernel_rfl) (by kernel_rfl) (by kernel_rfl) (by kernel_rfl) (by kernel_rfl) (by kernel_rfl) (by kernel_rfl) (by kernel_rfl) (by kernel_rfl) (by kernel_rfl)
theorem dk11 (P : Params) (mg mb : PySem.Str → Option PySem.Value) : DefAt ⟨mg, mb, fragT P⟩ 11 91 ob91b (fdOf ob91b) := mkDef 11 91 90 ob91b ob90b (by kernel_rfl) (by kernel_rfl) (by kernel_rfl) (by kernel_rfl) (by kernel_rfl) (by kernel_rfl) (by kernel_rfl) (by kernel_rfl) (by kernel_rfl) (by kernel_rfl) (by kernel_rfl) (by kernel_rfl) (by kernel_rfl)
theorem dk13 (P : Params) (mg mb : PySem.Str → Option PySem.Value) : DefAt ⟨mg, mb, fragT P⟩ 13 98 ob98c (fdOf ob98c) := mkDef 13 98 97 ob98c ob97c (by kernel_rfl) (by kernel_rfl) (by kernel_rfl) (by kernel_rfl) (by kernel_rfl) (by kernel_rfl) (by kernel_rfl) (by kernel_rfl) (by kernel_rfl) (by kernel_rfl) (by kernel_rfl) (by kernel_rfl) (by kernel_rfl)
theorem dk15 (P : Params) (mg mb : PySem.Str → Option PySem.Value) : DefAt ⟨mg, mb, fragT P⟩ 15 105 ob105c (fdOf ob105c) := mkDef 15 105 104 ob105c ob104c (by kernel_rfl) (by kernel_rfl) (by kernel_rfl) (by kernel_rfl) (by kernel_rfl) (by kernel_rfl) (by kernel_rfl) (by kernel_rfl) (by kernel_rfl) (by kernel_rfl) (by kernel_rfl) (by kernel_rfl) (by kernel_rfl)
theorem dk18 (P : Params) (mg mb : PySem.Str → Option PySem.Value) : DefAt ⟨mg, mb, fragT P⟩ 18 123 ob123e (fdOf ob123e) := mkDef 18 123 122 ob123e ob122e (by kernel_rfl) (by kernel_rfl) (by kernel_rfl) (by kernel_rfl) (by kernel_rfl) (by kernel_rfl) (by kernel_rfl) (by kernel_rfl) (by kernel_rfl) (by kernel_rfl) (by kernel_rfl) (by kernel_rfl) (by kernel_rfl)
theorem dk19 (P : Params) (mg mb : PySem.Str → Option PySem.Value) : DefAt ⟨mg, mb, fragT P⟩ 19 130 ob130e (fdOf ob130e) := mkDef 19 130 129 ob130e ob129e (by kernel_rfl) (by kernel_rfl) (by kernel_rfl) (by kernel_rfl) (by kernel_rfl) (by kernel_rfl) (by kernel_rfl) (by kernel_rfl) (by kernel_rfl) (by kernel_rfl) (by kernel_rfl) (by kernel_rfl) (by kernel_rfl)
theorem dk21 (P : Params) (mg mb : PySem.Str → Option PySem.Value) : DefAt ⟨mg, mb, fragT P⟩ 21 142 ob142g (fdOf ob142g) := mkDef 21 142 141 ob142g ob141g (by kernel_rfl) (by kernel_rfl) (by kernel_rfl) (by kernel_rfl) (by kernel_rfl) (by kernel_rfl) (by kernel_rfl) (by kernel_rfl) (by kernel_rfl) (by kernel_rfl) (by kernel_rfl) (by kernel_rfl) (by kernel_rfl)
theorem dk23 (P : Params) (mg mb : PySem.Str → Option PySem.Value) : DefAt ⟨mg, mb, fragT P⟩ 23 154 ob154i (fdOf ob154i) := mkDef 23 154 153 ob154i ob153i (by kernel_rfl) (by kernel_rfl) (by kernel_rfl) (by kernel_rfl) (by kernel_rfl) (by kernel_rfl) (by kernel_rfl) (by kernel_rfl) (by kernel_rfl) (by kernel_rfl) (by kernel_rfl) (by kernel_rfl) (by kernel_rfl)
theorem dk25 (P : Params) (mg mb : PySem.Str → Option PySem.Value) : DefAt ⟨mg, mb, fragT P⟩ 25 178 ob178k (fdOf ob178k) := mkDef 25 178 177 ob178k ob177k (by kernel_rfl) (by kernel_rfl) (by kernel_rfl) (by kernel_rfl) (by kernel_rfl) (by kernel_rfl) (by kernel_rfl) (by kernel_rfl) (by kernel_rfl) (by kernel_rfl) (by kernel_rfl) (by kernel_rfl) (by kernel_rfl)
theorem dk27 (P : Params) (mg mb : PySem.Str → Option PySem.Value) : DefAt ⟨mg, mb, fragT P⟩ 27 196 ob196m (fdOf ob196m) := mkDef 27 196 195 ob196m ob195m (by kernel_rfl) (by kernel_rfl) (by kernel_rfl) (by kernel_rfl) (by kernel_rfl) (by kernel_rfl) (by kernel_rfl) (by kernel_rfl) (by kernel_rfl) (by kernel_rfl) (by kernel_rfl) (by kernel_rfl) (by kernel_rfl)
theorem dk29 (P : Params) (mg mb : PySem.Str → Option PySem.Value) : DefAt ⟨mg, mb, fragT P⟩ 29 201 ob201m (fdOf ob201m) := mkDef 29 201 200 ob201m ob200m (by kernel_rfl) (by kernel_rfl) (by kernel_rfl) (by kernel_rfl) (by kernel_rfl) (by kernel_rfl) (by kernel_rfl) (by kernel_rfl) (by kernel_rfl) (by kernel_rfl) (by kernel_rfl) (by kernel_rfl) (by kernel_rfl)
theorem dk30 (P : Params) (mg mb : PySem.Str → Option PySem.Value) : DefAt ⟨mg, mb, fragT P⟩ 30 208 ob208m (fdOf ob208m) := mkDef 30 208 207 ob208m ob207m (by kernel_rfl) (by kernel_rfl) (by kernel_rfl) (by kernel_rfl) (by kernel_rfl) (by kernel_rfl) (by kernel_rfl) (by kernel_rfl) (by kernel_rfl) (by kernel_rfl) (by kernel_rfl) (by kernel_rfl) (by kernel_rfl)
theorem dk31 (P : Params) (mg mb : PySem.Str → Option PySem.Value) : DefAt ⟨mg, mb, fragT P⟩ 31 215 ob215m (fdOf ob215m) := mkDef 31 215 214 ob215m ob214m (by kernel_rfl) (by kernel_rfl) (by kernel_rfl) (by kernel_rfl) (by kernel_rfl) (by kernel_rfl) (by kernel_rfl) (by kernel_rfl) (by kernel_rfl) (by kernel_rfl) (by kernel_rfl) (by kernel_rfl) (by kernel_rfl)
theorem dk32 (P : Params) (mg mb : PySem.Str → Option PySem.Value) : DefAt ⟨mg, mb, fragT P⟩ 32 222 ob222m (fdOf ob222m) := mkDef 32 222 221 ob222m ob221m (by kernel_rfl) (by kernel_rfl) (by kernel_rfl) (by kernel_rfl) (by kernel_rfl) (by kernel_rfl) (by kernel_rfl) (by kernel_rfl) (by kernel_rfl) (by kernel_rfl) (by kernel_rfl) (by kernel_rfl) (by kernel_rfl)
theorem dk33 (P : Params) (mg mb : PySem.Str → Option PySem.Value) : DefAt ⟨mg, mb, fragT P⟩ 33 229 ob229m (fdOf ob229m) := mkDef 33 229 228 ob229m ob228m (by kernel_rfl) (by kernel_rfl) (by kernel_rfl) (by kernel_rfl) (by kernel_rfl) (by kernel_rfl) (by kernel_rfl) (by kernel_rfl) (by kernel_rfl) (by kernel_rfl) (by kernel_rfl) (by kernel_rfl) (by kernel_rfl)
theorem dk34 (P : Params) (mg mb : PySem.Str → Option PySem.Value) : DefAt ⟨mg, mb, fragT P⟩ 34 236 ob236m (fdOf ob236m) := mkDef 34 236 235 ob236m ob235m (by kernel_rfl) (by kernel_rfl) (by kernel_rfl) (by kernel_rfl) (by kernel_rfl) (by kernel_rfl) (by kernel_rfl) (by kernel_rfl) (by kernel_rfl) (by kernel_rfl) (by kernel_rfl) (by kernel_rfl) (by kernel_rfl)
theorem dk35 (P : Params) (mg mb : PySem.Str → Option PySem.Value) : DefAt ⟨mg, mb, fragT P⟩ 35 241 ob241m (fdOf ob241m) := mkDef 35 241 240 ob241m ob240m (by kernel_rfl) (by kernel_rfl) (by kernel_rfl) (by kernel_rfl) (by kernel_rfl) (by kernel_rfl) (by kernel_rfl) (by kernel_rfl) (by kernel_rfl) (by kernel_rfl) (by kernel_rfl) (by kernel_rfl) (by kernel_rfl)
theorem dk36 (P : Params) (mg mb : PySem.Str → Option PySem.Value) : DefAt ⟨mg, mb, fragT P⟩ 36 246 ob246m (fdOf ob246m) := mkDef 36 246 245 ob246m ob245m (by kernel_rfl) (by kernel_rfl) (by kernel_rfl) (by kernel_rfl) (by kernel_rfl) (by kernel_rfl) (by kernel_rfl) (by kernel_rfl) (by kernel_rfl) (by kernel_rfl) (by kernel_rfl) (by kernel_rfl) (by kernel_rfl)
theorem dk37 (P : Params) (mg mb : PySem.Str → Option PySem.Value) : DefAt ⟨mg, mb, fragT P⟩ 37 251 ob251m (fdOf ob251m) := mkDef 37 251 250 ob251m ob250m (by kernel_rfl) (by kernel_rfl) (by kernel_rfl) (by kernel_rfl) (by kernel_rfl) (by kernel_rfl) (by kernel_rfl) (by kernel_rfl) (by kernel_rfl) (by kernel_rfl) (by kernel_rfl) (by kernel_rfl) (by kernel_rfl)
theorem dk38 (P : Params) (mg mb : PySem.Str → Option PySem.Value) : DefAt ⟨mg, mb, fragT P⟩ 38 256 ob256m (fdOf ob256m) := mkDef 38 256 255 ob256m ob255m (by kernel_rfl) (by kernel_rfl) (by kernel_rfl) (by kernel_rfl) (by kernel_rfl) (by kernel_rfl) (by kernel_rfl) (by kernel_rfl) (by kernel_rfl) (by kernel_rfl) (by kernel_rfl) (by kernel_rfl) (by kernel_rfl)
noncomputable def adT : Nat → Addr
  | 1 => 21
  | 2 => 28
  | 3 => 35
  | 4 => 42
  | 5 => 49
  | 6 => 56
  | 7 => 63
  | 8 => 70
  | 9 => 77
  | 10 => 84
  | 11 => 91
  | 13 => 98
  | 15 => 105
  | 18 => 123
  | 19 => 130
  | 21 => 142
  | 23 => 154
  | 25 => 178
  | 27 => 196
  | 29 => 201
  | 30 => 208
  | 31 => 215
  | 32 => 222
  | 33 => 229
  | 34 => 236
  | 35 => 241
  | 36 => 246
  | 37 => 251
  | 38 => 256
  | _ => 0
noncomputable def obT : Nat → Obj
  | 1 => ob21b
  | 2 => ob28b
  | 3 => ob35b
  | 4 => ob42b
  | 5 => ob49b
  | 6 => ob56b
  | 7 => ob63b
  | 8 => ob70b
  | 9 => ob77b
  | 10 => ob84b
  | 11 => ob91b
  | 13 => ob98c
  | 15 => ob105c
  | 18 => ob123e
  | 19 => ob130e
  | 21 => ob142g
  | 23 => ob154i
  | 25 => ob178k
  | 27 => ob196m
  | 29 => ob201m
  | 30 => ob208m
  | 31 => ob215m
  | 32 => ob222m
  | 33 => ob229m
  | 34 => ob236m
  | 35 => ob241m
  | 36 => ob246m
  | 37 => ob251m
  | 38 => ob256m
  | _ => ob11a
noncomputable def dlT : List Nat := [1, 2, 3, 4, 5, 6, 7, 8, 9, 10, 11, 13, 15, 18, 19, 21, 23, 25, 27, 29, 30, 31, 32, 33, 34, 35, 36, 37, 38]
theorem isDef_mem {k : Nat} (h : isDef k = true) : k ∈ dlT := by
  by_cases hk : k < 39
  · exact (by decide +kernel : ∀ k, k < 39 → isDef k = true → k ∈ dlT) k hk h
  · exfalso
    have e : PySem.Challenge.pw_xg0016_01.main.body[k]? = none := List.getElem?_eq_none (by rw [show PySem.Challenge.pw_xg0016_01.main.body.length = 39 by kernel_rfl]; omega)
    unfold isDef stAt at h
    rw [e] at h
    exact absurd h (by decide)
theorem defs_T (P : Params) (mg mb : PySem.Str → Option PySem.Value) (k : Nat) (h : isDef k = true) : DefAt ⟨mg, mb, fragT P⟩ k (adT k) (obT k) (fdOf (obT k)) := by
  have hk := isDef_mem h
  simp only [dlT, List.mem_cons, List.not_mem_nil, or_false] at hk
  rcases hk with rfl | rfl | rfl | rfl | rfl | rfl | rfl | rfl | rfl | rfl | rfl | rfl | rfl | rfl | rfl | rfl | rfl | rfl | rfl | rfl | rfl | rfl | rfl | rfl | rfl | rfl | rfl | rfl | rfl
  · exact dk1 P mg mb
  · exact dk2 P mg mb
  · exact dk3 P mg mb
  · exact dk4 P mg mb
  · exact dk5 P mg mb
  · exact dk6 P mg mb
  · exact dk7 P mg mb
  · exact dk8 P mg mb
  · exact dk9 P mg mb
  · exact dk10 P mg mb
  · exact dk11 P mg mb
  · exact dk13 P mg mb
  · exact dk15 P mg mb
  · exact dk18 P mg mb
  · exact dk19 P mg mb
  · exact dk21 P mg mb
  · exact dk23 P mg mb
  · exact dk25 P mg mb
  · exact dk27 P mg mb
  · exact dk29 P mg mb
  · exact dk30 P mg mb
  · exact dk31 P mg mb
  · exact dk32 P mg mb
  · exact dk33 P mg mb
  · exact dk34 P mg mb
  · exact dk35 P mg mb
  · exact dk36 P mg mb
  · exact dk37 P mg mb
  · exact dk38 P mg mb
theorem names_T (P : Params) (k : Nat) (h : isDef k = true) : (hpm P).nsMap mainGlobals (nameAt k) = some (.ref (adT k)) := by
  have hk := isDef_mem h
  simp only [dlT, List.mem_cons, List.not_mem_nil, or_false] at hk
  rcases hk with rfl | rfl | rfl | rfl | rfl | rfl | rfl | rfl | rfl | rfl | rfl | rfl | rfl | rfl | rfl | rfl | rfl | rfl | rfl | rfl | rfl | rfl | rfl | rfl | rfl | rfl | rfl | rfl | rfl <;> kernel_rfl
theorem blt_len (P : Params) : (hpm P).nsMap mainGlobals "len" = none ∧ (hpm P).nsMap builtinsNs "len" = some (.builtin "len") := ⟨by kernel_rfl, by kernel_rfl⟩
theorem blt_chr (P : Params) : (hpm P).nsMap mainGlobals "chr" = none ∧ (hpm P).nsMap builtinsNs "chr" = some (.builtin "chr") := ⟨by kernel_rfl, by kernel_rfl⟩
theorem blt_ord (P : Params) : (hpm P).nsMap mainGlobals "ord" = none ∧ (hpm P).nsMap builtinsNs "ord" = some (.builtin "ord") := ⟨by kernel_rfl, by kernel_rfl⟩
theorem blt_range (P : Params) : (hpm P).nsMap mainGlobals "range" = none ∧ (hpm P).nsMap builtinsNs "range" = some (.type "range") := ⟨by kernel_rfl, by kernel_rfl⟩
theorem blt_enumerate (P : Params) : (hpm P).nsMap mainGlobals "enumerate" = none ∧ (hpm P).nsMap builtinsNs "enumerate" = some (.type "enumerate") := ⟨by kernel_rfl, by kernel_rfl⟩
theorem max_T (P : Params) : (hpm P).nsMap mainGlobals "CHAR_MAX" = some (.int 127 287) := by kernel_rfl
noncomputable def tgt : Stmt → Option PySem.Str
  | .Assign [.Name x _] _ _ => some x
  | _ => none
noncomputable def chkS (es : List (Int × PySem.Value)) (L : List Int) : Bool :=
  (es.all fun e => match e.2 with
    | .int i _ => e.1 == hashInt i && L.any (fun j => j == i)
    | _ => false) && L.all fun j => es.any fun e => match e.2 with
    | .int i _ => i == j
    | _ => false
theorem setOf_T {prog : Program} {w : World} {h : Heap} {a : Addr} {o : Obj} {es : Array (Int × PySem.Value)} {ep : Nat} {t : SetTable} {L : List Int} (ho : h.get? a = some o) (hx : o.ExactSet) (hd : o.data = .set es ep t) (hc : chkS es.toList L = true) (hs : Nat.ble (es.size + 1) scanBound = true) (hf : t.fits es.size = true) :
    h.SetOf (intKind prog w) a (fun i => L.any (fun j => j == i)) es.size := by
  unfold chkS at hc
  obtain ⟨h1, h2⟩ := Bool.and_eq_true_iff.mp hc
  have key : ∀ e ∈ es.toList, ∃ i tk, e.2 = .int i tk ∧ e.1 = hashInt i ∧ L.any (fun j => j == i) = true := fun e he => by
    have := List.all_eq_true.mp h1 e he
    split at this
    · rename_i i tk q
      obtain ⟨a1, a2⟩ := Bool.and_eq_true_iff.mp this
      exact ⟨i, tk, q, by simpa using a1, a2⟩
    · cases this
  refine ⟨o, es, ep, t, ho, hx, hd, fun e he => ?_, fun k => ?_, Nat.le_of_ble_eq_true hs, hf, rfl⟩
  · obtain ⟨i, tk, q, q1, _⟩ := key e he
    exact ⟨⟨i, by rw [q]; simp [intKind, Value.isInt], q1⟩, by rw [q]; rfl⟩
  · constructor
    · intro hk
      obtain ⟨j, hj, e⟩ := List.any_eq_true.mp hk
      obtain rfl : j = k := by simpa using e
      have := List.all_eq_true.mp h2 j hj
      obtain ⟨e, he, q⟩ := List.any_eq_true.mp this
      refine ⟨e, he, ?_⟩
      split at q
      · rename_i i tk q2
        rw [q2]
        simpa [intKind, Value.isInt] using q
      · cases q
    · rintro ⟨e, he, q⟩
      obtain ⟨i, tk, q2, _, q3⟩ := key e he
      rw [q2] at q
      have : i = k := by simpa [intKind, Value.isInt] using q
      subst this
      exact q3
noncomputable def esOf (o : Obj) : Array (Int × PySem.Value) := match o.data with
  | .set es _ _ => es
  | _ => #[]
noncomputable def epOf (o : Obj) : Nat := match o.data with
  | .set _ n _ => n
  | _ => 0
noncomputable def tbOf (o : Obj) : SetTable := match o.data with
  | .set _ _ t => t
  | _ => default
theorem set17 {prog : Program} {w : World} {h : Heap} (P : Params) (X : (fragT P).In h) : h.SetOf (intKind prog w) 113 (inSets 17) (esOf (ob113d P)).size :=
  setOf_T (o := ob113d P) (ep := epOf (ob113d P)) (t := tbOf (ob113d P)) (L := elems 17) (X 113 (ob113d P) (by kernel_rfl)) ⟨by kernel_rfl, by kernel_rfl, by kernel_rfl⟩ (by kernel_rfl) (by kernel_rfl) (by kernel_rfl) (by kernel_rfl)
theorem sname17 (P : Params) : tgt (stAt 17) = some "b1_set" ∧ (hpm P).nsMap mainGlobals "b1_set" = some (.ref 113) := ⟨by kernel_rfl, by kernel_rfl⟩
theorem set20 {prog : Program} {w : World} {h : Heap} (P : Params) (X : (fragT P).In h) : h.SetOf (intKind prog w) 132 (inSets 20) (esOf (ob132f P)).size :=
  setOf_T (o := ob132f P) (ep := epOf (ob132f P)) (t := tbOf (ob132f P)) (L := elems 20) (X 132 (ob132f P) (by kernel_rfl)) ⟨by kernel_rfl, by kernel_rfl, by kernel_rfl⟩ (by kernel_rfl) (by kernel_rfl) (by kernel_rfl) (by kernel_rfl)
theorem sname20 (P : Params) : tgt (stAt 20) = some "c6_set" ∧ (hpm P).nsMap mainGlobals "c6_set" = some (.ref 132) := ⟨by kernel_rfl, by kernel_rfl⟩
theorem set22 {prog : Program} {w : World} {h : Heap} (P : Params) (X : (fragT P).In h) : h.SetOf (intKind prog w) 144 (inSets 22) (esOf (ob144h P)).size :=
  setOf_T (o := ob144h P) (ep := epOf (ob144h P)) (t := tbOf (ob144h P)) (L := elems 22) (X 144 (ob144h P) (by kernel_rfl)) ⟨by kernel_rfl, by kernel_rfl, by kernel_rfl⟩ (by kernel_rfl) (by kernel_rfl) (by kernel_rfl) (by kernel_rfl)
theorem sname22 (P : Params) : tgt (stAt 22) = some "c7_set" ∧ (hpm P).nsMap mainGlobals "c7_set" = some (.ref 144) := ⟨by kernel_rfl, by kernel_rfl⟩
theorem set24 {prog : Program} {w : World} {h : Heap} (P : Params) (X : (fragT P).In h) : h.SetOf (intKind prog w) 168 (inSets 24) (esOf (ob168j P)).size :=
  setOf_T (o := ob168j P) (ep := epOf (ob168j P)) (t := tbOf (ob168j P)) (L := elems 24) (X 168 (ob168j P) (by kernel_rfl)) ⟨by kernel_rfl, by kernel_rfl, by kernel_rfl⟩ (by kernel_rfl) (by kernel_rfl) (by kernel_rfl) (by kernel_rfl)
theorem sname24 (P : Params) : tgt (stAt 24) = some "c8_set" ∧ (hpm P).nsMap mainGlobals "c8_set" = some (.ref 168) := ⟨by kernel_rfl, by kernel_rfl⟩
theorem set26 {prog : Program} {w : World} {h : Heap} (P : Params) (X : (fragT P).In h) : h.SetOf (intKind prog w) 186 (inSets 26) (esOf (ob186l P)).size :=
  setOf_T (o := ob186l P) (ep := epOf (ob186l P)) (t := tbOf (ob186l P)) (L := elems 26) (X 186 (ob186l P) (by kernel_rfl)) ⟨by kernel_rfl, by kernel_rfl, by kernel_rfl⟩ (by kernel_rfl) (by kernel_rfl) (by kernel_rfl) (by kernel_rfl)
theorem sname26 (P : Params) : tgt (stAt 26) = some "c9_set" ∧ (hpm P).nsMap mainGlobals "c9_set" = some (.ref 186) := ⟨by kernel_rfl, by kernel_rfl⟩
end Mine
end
end
section
open PySem PySem.W PyProof.Rows
section
namespace Mine
theorem looks0 (w : World) : (fun os => ((staticsOk (importedModules tp.main.body) (boot_heap w.params) (hpm w.params) && namesBound tp (hpm w.params) && gensDone (sEnd w os) && laidKept (boot_heap w.params) (hpm w.params)),
    openSeen qT looseT (importedModules tp.main.body) (fun _ => true) true (sEnd w os), (sEnd w os).heap)) = fun _ => (true, openGood qT looseT, hpm w.params) := by
  funext os
  refine Prod.ext (look1 w os) (Prod.ext ?_ rfl)
  show openSeen qT looseT (importedModules tp.main.body) (fun _ => true) true (sEnd w os) = openGood qT looseT
  rw [tSeen_eq]
  exact look2 w os
theorem left_T : LeftO tp qT looseT (fun _ => true) (fun s : Shared => s.heap) (fun w => hpm w.params) 10000 :=
  LeftO.of_pieces (H₀ := boot_heap) (H₁ := hpm) (gs₀ := .mk []) (gs₁ := .mk []) (d₀ := boot_drawn) (d₁ := boot_drawn) (k₀ := boot_toks) (k₁ := 768) (m₀ := 11) (ann := annT) (M := 7009) open0 size0 (fun w os => (run0 w os).trans (congrArg some (end_eq w os))) rfl looks0
theorem left0 : LeftO PySem.Challenge.pw_xg0016_01 qT looseT (fun _ => true) (fun s : Shared => s.heap) (fun w => hpm w.params) 10000 := by
  rw [tp_eq]
  exact left_T
noncomputable abbrev YT (w : World) (h : Heap) : Prop := ∀ b o, (hpm w.params).get? b = some o → h.get? b = some o
theorem nsMap_same {h₀ h : Heap} {a : Addr} {o : Obj} (e : h₀.get? a = some o) (y : ∀ b o, h₀.get? b = some o → h.get? b = some o) : h.nsMap a = h₀.nsMap a := by
  funext x
  unfold Heap.nsMap
  rw [e, y a o e]
section
variable {prog : Program} {w : World} {h : Heap} {mg mb : PySem.Str → Option PySem.Value}
theorem mg_T (Y : YT w h) (g : h.Ns mainGlobals mg) : mg = (hpm w.params).nsMap mainGlobals := by
  rw [g.eq_nsMap]
  exact nsMap_same (o := ob3m w.params) (by kernel_rfl) Y
theorem mb_T (Y : YT w h) (b : h.Ns builtinsNs mb) : mb = (hpm w.params).nsMap builtinsNs := by
  rw [b.eq_nsMap]
  exact nsMap_same (o := boot_o_0 w.params) (by kernel_rfl) Y
theorem inSet_T {a : Addr} {S : Int → Bool} {n : Nat} {A : Around} {s : Shared} {i : Int} {t : Tok} {Q : PySem.Value → Shared → Prop} {E : PySem.Value → Shared → Prop} (hS : s.heap.SetOf (intKind prog w) a S n) (hQ : ∀ tk, Q (.bool (S i)) { s with toks := tk }) :
    wpAny (model prog w) A (compareOp .In (.int i t) (.ref a)) Q E s :=
  wpAny_inSet_of (knd := intKind prog w) (k := i) (by simp [intKind, Value.isInt]) rfl hS (hQ _)
theorem laid_T (Y : YT w h) (g : h.Ns mainGlobals mg) (b : h.Ns builtinsNs mb) : Laid prog w ⟨mg, mb, fragT w.params⟩ adT obT (fun k => fdOf (obT k)) inSets where
  defs k hk := defs_T w.params mg mb k hk
  names k hk := by show mg _ = _; rw [mg_T Y g]; exact names_T w.params k hk
  len := .blt (by show mg _ = _; rw [mg_T Y g]; exact (blt_len w.params).1) (by show mb _ = _; rw [mb_T Y b]; exact (blt_len w.params).2)
  chr := .blt (by show mg _ = _; rw [mg_T Y g]; exact (blt_chr w.params).1) (by show mb _ = _; rw [mb_T Y b]; exact (blt_chr w.params).2)
  ord := .blt (by show mg _ = _; rw [mg_T Y g]; exact (blt_ord w.params).1) (by show mb _ = _; rw [mb_T Y b]; exact (blt_ord w.params).2)
  range := .blt (by show mg _ = _; rw [mg_T Y g]; exact (blt_range w.params).1) (by show mb _ = _; rw [mb_T Y b]; exact (blt_range w.params).2)
  enumerate := .blt (by show mg _ = _; rw [mg_T Y g]; exact (blt_enumerate w.params).1) (by show mb _ = _; rw [mb_T Y b]; exact (blt_enumerate w.params).2)
  max := ⟨_, by show mg _ = _; rw [mg_T Y g]; exact max_T w.params⟩
  sets k x pos v p hst hk := by
    have hx : tgt (stAt k) = some x := by rw [hst]; rfl
    simp only [List.mem_cons, List.not_mem_nil, or_false] at hk
    rcases hk with rfl | rfl | rfl | rfl | rfl
    · have e := (sname17 w.params).1
      rw [hx] at e
      cases e
      exact ⟨113, by show mg _ = _; rw [mg_T Y g]; exact (sname17 w.params).2, fun A s i t Q E B hQ => inSet_T (set17 w.params B.has) hQ⟩
    · have e := (sname20 w.params).1
      rw [hx] at e
      cases e
      exact ⟨132, by show mg _ = _; rw [mg_T Y g]; exact (sname20 w.params).2, fun A s i t Q E B hQ => inSet_T (set20 w.params B.has) hQ⟩
    · have e := (sname22 w.params).1
      rw [hx] at e
      cases e
      exact ⟨144, by show mg _ = _; rw [mg_T Y g]; exact (sname22 w.params).2, fun A s i t Q E B hQ => inSet_T (set22 w.params B.has) hQ⟩
    · have e := (sname24 w.params).1
      rw [hx] at e
      cases e
      exact ⟨168, by show mg _ = _; rw [mg_T Y g]; exact (sname24 w.params).2, fun A s i t Q E B hQ => inSet_T (set24 w.params B.has) hQ⟩
    · have e := (sname26 w.params).1
      rw [hx] at e
      cases e
      exact ⟨186, by show mg _ = _; rw [mg_T Y g]; exact (sname26 w.params).2, fun A s i t Q E B hQ => inSet_T (set26 w.params B.has) hQ⟩
end
end Mine
end
end
open PySem PySem.W PyProof.Rows
section
namespace Mine
noncomputable def poT : Pos := match stT 38 with
  | .FunctionDef _ _ _ _ _ _ _ _ _ p => p
  | _ => default
noncomputable def dT : DefRec := ⟨nmT 38, arT 38, boT 38, scT 38, poT⟩
theorem ofPys_ints : ∀ items : List Int, ofPys (items.map PyData.int) = items.map WData.int
  | [] => rfl
  | i :: r => by
    rw [List.map_cons, List.map_cons, ← ofPys_ints r]
    rfl
theorem ofPy_ints (items : List Int) : ofPy (.list (items.map PyData.int)) = .list (items.map WData.int) := by
  rw [← ofPys_ints]
  rfl
theorem wells_ints {P : Params} {h : Heap} {P' : Addr → Prop} : ∀ (items : List Int) (vs : List PySem.Value), WellAll P h vs (items.map WData.int) → VRs h P' (ivs items) vs
  | [], vs, x => by
    cases x
    exact VRs.nil
  | i :: r, vs, x => by
    rw [List.map_cons] at x
    cases x with
    | cons a b =>
      cases a with
      | int i t =>
        show VRs h P' (V.int i :: ivs r) _
        unfold VRs
        exact ⟨⟨t, rfl⟩, wells_ints r _ b⟩
theorem well_ints {P : Params} {h : Heap} {v : PySem.Value} {items : List Int} (x : Well P h v (.list (items.map WData.int))) : VR h (fun _ => True) none (.list (ivs items)) v := by
  cases x with
  | list hg hw =>
    unfold VR
    exact ⟨_, _, 0, rfl, trivial, hg, wells_ints items _ hw⟩
theorem vals_ints {P : Params} {h : Heap} {vals : List PySem.Value} {items : List Int} (x : WellAll P h vals [ofPy (.list (items.map PyData.int))]) : ∃ v, vals = [v] ∧ VR h (fun _ => True) none (.list (ivs items)) v := by
  rw [ofPy_ints] at x
  cases x with
  | cons a b =>
    cases b
    exact ⟨_, rfl, well_ints a⟩
theorem law_at {w : World} {h : Heap} {mg : PySem.Str → Option PySem.Value} {a : Addr} (Y : YT w h) (g : h.Ns mainGlobals mg) (e : mg dT.name = some (.ref a)) : a = adT 38 := by
  rw [mg_T Y g] at e
  have k : (hpm w.params).nsMap mainGlobals dT.name = some (.ref (adT 38)) := by kernel_rfl
  rw [k] at e
  injection e with e
  injection e with e
  exact e.symm
end Mine
end
set_option maxHeartbeats 4000000 in
theorem PySem.Challenge.cw_xg0016_01_holds : PySem.Challenge.rw_xg0016_01.Holds := by
  w_on
  o_law
  refine PySem.W.holds_open (q := Mine.qT) (loose := Mine.looseT) (Xt := fun _ => true) (XP := fun _ _ => True) (Yf := fun s => s.heap) (Ya := fun w => Mine.hpm w.params) (YP := Mine.YT) (d := Mine.dT) (kwd := []) (N := 10000) Mine.left0 ?_ ?_ ?_ ?_ ?_ ?_ ?_ ?_ ?_ ?_ ?_ ?_ ?_ ?_
  · exact fun w s e b o h => by rw [show s.heap = _ from e]; exact h
  · exact fun w h h' y k b o e => k b o (y b o e)
  · exact fun _ _ => trivial
  · exact fun _ _ _ _ _ => trivial
  · kernel_rfl
  · show PySem.Challenge.pw_xg0016_01.theDef _ = _
    rw [Mine.tp_eq]
    kernel_rfl
  · kernel_rfl
  · exact fun _ _ => recFacts_nil rfl
  · rfl
  · assumption
  · show (_ && opensWell PySem.Challenge.pw_xg0016_01 && _) = true
    kernel_rfl
  · exact ⟨rfl, rfl, rfl, rfl, rfl, by decide +kernel⟩
  · w_witness2
  · intro w s₀ s₁ mg mb G Y a o pm cd doc dV kV ho hd hcd hD hmg hg args vals as hpre hlay hrd hwl hlo
    have hsh := (pre_splitW hpre).1
    have hcond := (pre_splitW hpre).2
    wrow_hasAll hsh hlay
    w_cond hcond
    rename_i items _ _ _ _ _ hc _
    obtain ⟨sv, hv, hr⟩ := Mine.vals_ints hwl
    subst hv
    obtain rfl := Mine.law_at Y G.T.g hmg
    refine Mine.law_true (n := 0) (Mine.laid_T Y G.T.g G.T.b) (items := items) (by omega) ⟨rfl, by decide, by decide⟩ ⟨G.T.g, G.T.b, G.T.nolimit, (Mine.frag_in w.params).keeps Y⟩ (fun _ _ => trivial) hr fun h' tk gs hb hk => ?_
    exact ⟨.inl ⟨_, .bool true, [], rfl, fun _ => rfl, .bool true, by wrow_post, fun _ => ⟨List.nodup_nil, fun _ hm => (nomatch hm)⟩⟩, OldK.of_keep hk, rfl, AllBare.push (AllBare.of_eq hg) hb⟩
