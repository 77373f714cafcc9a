import JvmDerived
import JvmDerived.Pilot.@@N@@Statement
import JvmDerived.Pilot.@@N@@Code
set_option linter.unusedVariables false
set_option linter.unusedSimpArgs false
namespace Jvm.RoadKit
open Sem ClassFile Op Lib Jvm.Stand Jvm.Free Jvm.LawKit
/-- the walk that stands at S comes to an end of which P holds -/
def own_Goes (tb : Tables) (e : Env) (below : List Frame) (P : State → Outcome → Prop) (S : State) : Prop := ∃ t o, Steps tb e below S t ∧ P t o
theorem own_Goes.of {tb : Tables} {e : Env} {below : List Frame} {P : State → Outcome → Prop} {S : State} (k : own_Goes tb e below P S) : ∃ t o, Steps tb e below S t ∧ P t o := k
theorem own_Goes.nm {tb : Tables} {e : Env} {below : List Frame} {P : State → Outcome → Prop} {S : State} (k : ∀ P' : State → Outcome → Prop, (∀ t o, P t o → P' t o) → own_Goes tb e below P' S) : own_Goes tb e below P S := k P fun _ _ q => q
theorem own_Goes.st {tb : Tables} {e : Env} {below : List Frame} {P : State → Outcome → Prop} {S S' : State} (k : own_Goes tb e below P S') (h : ∀ t, Steps tb e below S' t → Steps tb e below S t) : own_Goes tb e below P S := by
  obtain ⟨t, o, h1, h2⟩ := k; exact ⟨t, o, h t h1, h2⟩
theorem own_Goes.tr {tb : Tables} {e : Env} {below : List Frame} {P : State → Outcome → Prop} {S S' : State} (h : Steps tb e below S S') (k : own_Goes tb e below P S') : own_Goes tb e below P S := by
  obtain ⟨t, o, h1, h2⟩ := k; exact ⟨t, o, h.trans h1, h2⟩
theorem own_Goes.fin {tb : Tables} {e : Env} {below : List Frame} {P : State → Outcome → Prop} {S : State} (t : State) (o : Outcome) (h : Steps tb e below S t) (k : P t o) : own_Goes tb e below P S := ⟨t, o, h, k⟩
end Jvm.RoadKit
namespace Jvm.OwnFl
open Jvm.FP.Core
/-- the step in which errors are counted: 2^1150 units of 2^-1200 -/
def own_u : Nat := 2 ^ 1150
theorem own_u_pos : 0 < own_u := by unfold own_u; exact Nat.two_pow_pos 1150
theorem own_ac1 (a b c d : Nat) : a * (b * c * d) = a * (b * d) * c := by ac_rfl
theorem own_ac2 (a b c d : Nat) : a * (b * c) * d = a * (d * (b * c)) := by ac_rfl
theorem own_shape {s : Bool} {A B : Nat} {e : Int} : (∃ c q, roundRatio b64 s A B e = .fin s c q) ∨ roundRatio b64 s A B e = .inf s := by
  unfold roundRatio
  split
  · exact Or.inl ⟨_, _, rfl⟩
  · unfold roundAt settle bound
    split <;> split <;> simp
theorem own_qmin : b64.qmin = -1074 := by decide
theorem own_qmax : b64.qmax = 971 := by decide
theorem own_round (k m : Nat) {s : Bool} {A B : Nat} {e : Int} (hk : k ≤ 100) (hm : m ≤ 200) (hB : 0 < B) (he : -1200 - (k : Int) ≤ e) (hA : inUnits A e (-1200 - (k : Int)) < B * (2 ^ (m + 53) * own_u)) :
    ∃ c q, roundRatio b64 s A B e = .fin s c q ∧ -1074 ≤ q ∧ distance A B e c q (-1200 - (k : Int)) ≤ B * (2 ^ m * own_u) := by
  have hfin : ∃ c q, roundRatio b64 s A B e = .fin s c q := by
    rcases own_shape (s := s) (A := A) (B := B) (e := e) with h | h
    · exact h
    · exfalso
      have q := (roundRatio_inf good_b64 hB (e0 := -1200 - (k : Int)) (by rw [own_qmin]; omega) he).mp h
      rw [own_qmax] at q
      have e1 : (971 - 1 - (-1200 - (k : Int))).toNat = (m + 53) + 1150 + (1020 + k - (m + 53)) := by omega
      have e5 : 2 ^ (971 - 1 - (-1200 - (k : Int))).toNat = 2 ^ (m + 53) * 2 ^ 1150 * 2 ^ (1020 + k - (m + 53)) := by
        rw [e1, Nat.pow_add 2 (m + 53 + 1150), Nat.pow_add 2 (m + 53) 1150]
      rw [e5] at q
      have z : B * (2 ^ (m + 53) * own_u) ≤ (2 ^ (b64.p + 1) - 1) * (2 ^ (m + 53) * 2 ^ 1150 * 2 ^ (1020 + k - (m + 53))) * B := by
        rw [Nat.mul_comm B]
        apply Nat.mul_le_mul_right
        have a1 : 1 ≤ 2 ^ (b64.p + 1) - 1 := by decide
        have a2 : 1 ≤ 2 ^ (1020 + k - (m + 53)) := Nat.two_pow_pos _
        calc 2 ^ (m + 53) * own_u = 1 * (2 ^ (m + 53) * 2 ^ 1150 * 1) := by rw [Nat.one_mul, Nat.mul_one]; rfl
          _ ≤ _ := Nat.mul_le_mul a1 (Nat.mul_le_mul_left _ a2)
      omega
  obtain ⟨c, q, h⟩ := hfin
  have hf := roundRatio_fits good_b64 s A hB e
  rw [h] at hf
  obtain ⟨-, hq, -⟩ := hf
  rw [own_qmin] at hq
  refine ⟨c, q, h, hq, ?_⟩
  have hD : 0 < B * (2 ^ m * own_u) := Nat.mul_pos hB (Nat.mul_pos (Nat.two_pow_pos _) own_u_pos)
  have hc' : inUnits A e (-1200 - (k : Int)) / (B * (2 ^ m * own_u)) < 2 ^ b64.p := by
    apply Nat.div_lt_of_lt_mul
    refine Nat.lt_of_lt_of_eq hA ?_
    show B * (2 ^ (m + 53) * own_u) = B * (2 ^ m * own_u) * 2 ^ 53
    rw [Nat.pow_add 2 m 53]; exact own_ac1 _ _ _ _
  have hn := roundRatio_nearest good_b64 (c' := inUnits A e (-1200 - (k : Int)) / (B * (2 ^ m * own_u))) (q' := -1200 - (k : Int) + (1150 + m : Nat)) (e0 := -1200 - (k : Int)) hB h hc' (by rw [own_qmin]; omega) (by rw [own_qmin]; omega) he
  refine Nat.le_trans hn ?_
  unfold distance
  have e2 : inUnits (inUnits A e (-1200 - (k : Int)) / (B * (2 ^ m * own_u))) (-1200 - (k : Int) + (1150 + m : Nat)) (-1200 - (k : Int)) * B = inUnits A e (-1200 - (k : Int)) / (B * (2 ^ m * own_u)) * (B * (2 ^ m * own_u)) := by
    generalize inUnits A e (-1200 - (k : Int)) / (B * (2 ^ m * own_u)) = N
    unfold inUnits
    rw [show (-1200 - (k : Int) + (1150 + m : Nat) - (-1200 - (k : Int))).toNat = m + 1150 by omega, Nat.pow_add]
    exact own_ac2 _ _ _ _
  have e3 := Nat.div_add_mod (inUnits A e (-1200 - (k : Int))) (B * (2 ^ m * own_u))
  have e4 := Nat.mod_lt (inUnits A e (-1200 - (k : Int))) hD
  rw [← Int.natCast_mul, e2]
  rw [Nat.mul_comm] at e3
  generalize inUnits A e (-1200 - (k : Int)) / (B * (2 ^ m * own_u)) * (B * (2 ^ m * own_u)) = X at e3 ⊢
  omega
/-- the double x is finite and holds v units of 2^-1200 -/
def own_Is (x : UInt64) (v : Int) : Prop := ∃ s c q, val64 x = .fin s c q ∧ -1074 ≤ q ∧ v = signed s (inUnits c q (-1200))
theorem own_Is.fin {x : UInt64} {v : Int} (h : own_Is x v) : val64 x ≠ .nan := by
  obtain ⟨s, c, q, h, -⟩ := h; rw [h]; exact fun q => by cases q
theorem own_sgn (s : Bool) (a b : Nat) : (signed s a - signed s b).natAbs = ((a : Int) - (b : Int)).natAbs := by
  cases s <;> simp only [signed] <;> first | rfl | (simp; omega)
/-- rounding, with the denominator 1: what comes out lies within 2^m steps, told in units of 2^-1200 and k digits more -/
theorem own_near (k m : Nat) {s : Bool} {A : Nat} {e : Int} {x : UInt64} (hx : val64 x = roundRatio b64 s A 1 e) (hk : k ≤ 100) (hm : m ≤ 200) (he : -1200 - (k : Int) ≤ e) {V : Int} (hV : V = signed s (inUnits A e (-1200 - (k : Int)))) (hA : V.natAbs < 2 ^ (m + 53) * own_u) :
    ∃ z, own_Is x z ∧ (V - z * 2 ^ k).natAbs ≤ 2 ^ m * own_u := by
  have hab : V.natAbs = inUnits A e (-1200 - (k : Int)) := by rw [hV]; exact natAbs_signed _ _
  obtain ⟨c, q, h1, h2, h3⟩ := own_round k m (s := s) (A := A) (B := 1) (e := e) hk hm Nat.one_pos he (by rw [Nat.one_mul, ← hab]; exact hA)
  refine ⟨signed s (inUnits c q (-1200)), ⟨s, c, q, by rw [hx, h1], h2, rfl⟩, ?_⟩
  have hmv := inUnits_move c (q := q) (r := -1200) (e := -1200 - (k : Int)) (by omega) (by omega)
  have ek : (-1200 - (-1200 - (k : Int))).toNat = k := by omega
  rw [ek] at hmv
  have e1 : signed s (inUnits c q (-1200)) * 2 ^ k = signed s (inUnits c q (-1200 - (k : Int))) := by
    rw [hmv, signed_mul]; simp
  rw [e1, hV, own_sgn]
  unfold distance at h3
  rw [Nat.one_mul] at h3
  simpa using h3
theorem own_smul (s : Bool) (C N : Nat) : signed s (C * N) = (C : Int) * signed s N := by rw [Nat.mul_comm, signed_mul, Int.mul_comm]
/-- a product with a known positive double C * 2^-k -/
theorem own_mulc (k m C : Nat) {x y : UInt64} {v : Int} (hx : val64 x = .fin false C (-(k : Int))) (hy : own_Is y v) (hk : k ≤ 100) (hm : m ≤ 200) (hb : ((C : Int) * v).natAbs < 2 ^ (m + 53) * own_u) :
    ∃ z, own_Is (dmul x y) z ∧ ((C : Int) * v - z * 2 ^ k).natAbs ≤ 2 ^ m * own_u := by
  obtain ⟨t, d, r, h1, h2, h3⟩ := hy
  have hp := val64_dmul x y
  rw [hx, h1] at hp
  refine own_near k m (s := false != t) (A := C * d) (e := -(k : Int) + r) hp hk hm (by omega) ?_ hb
  have e1 : inUnits (C * d) (-(k : Int) + r) (-1200 - (k : Int)) = C * inUnits d r (-1200) := by
    unfold inUnits
    rw [show (-(k : Int) + r - (-1200 - (k : Int))).toNat = (r - -1200).toNat by omega, Nat.mul_assoc]
  rw [e1, own_smul, h3]
  cases t <;> rfl
theorem own_units (s : Bool) (c : Nat) {q r : Int} (h1 : -1200 ≤ r) (h2 : r ≤ q) : signed s (inUnits c q (-1200)) = signed s (inUnits c q r) * ((2 ^ (r - -1200).toNat : Nat) : Int) := by
  rw [inUnits_move c h1 h2, signed_mul]
theorem own_sum (m : Nat) {x y : UInt64} {v w : Int} (hx : own_Is x v) (hy : own_Is y w) (hm : m ≤ 200) (hb : (v + w).natAbs < 2 ^ (m + 53) * own_u) :
    ∃ z, own_Is (dadd x y) z ∧ (v + w - z).natAbs ≤ 2 ^ m * own_u := by
  obtain ⟨s, c, q, h1, h2, h3⟩ := hx
  obtain ⟨t, d, r, g1, g2, g3⟩ := hy
  have hp := val64_dadd x y
  rw [h1, g1] at hp
  have hs : v + w = sumUnits s c q t d r (min q r) * ((2 ^ (min q r - -1200).toNat : Nat) : Int) := by
    rw [h3, g3, own_units s c (r := min q r) (by omega) (by omega), own_units t d (q := r) (r := min q r) (by omega) (by omega), ← Int.add_mul]; rfl
  obtain ⟨z, hz, hd⟩ := own_near 0 m (s := sumSign s t (sumUnits s c q t d r (min q r))) (A := (sumUnits s c q t d r (min q r)).natAbs) (e := min q r) (x := dadd x y) (V := v + w) hp (by omega) hm (by omega) (by
    have e0 : (-1200 - ((0 : Nat) : Int)) = -1200 := by omega
    rw [e0, hs]
    generalize sumUnits s c q t d r (min q r) = U
    unfold inUnits
    generalize 2 ^ (min q r - -1200).toNat = P
    rw [signed_mul]
    congr 1
    unfold sumSign
    by_cases hU : U = 0
    · subst hU; rw [if_pos rfl]; exact (signed_zero _).symm
    · rw [if_neg hU]
      by_cases hn : U < 0
      · simp only [hn, decide_true, signed, if_true]; omega
      · simp only [hn, decide_false, signed]; simp; omega) hb
  exact ⟨z, hz, by simpa using hd⟩
theorem own_qt {s : Bool} {c D : Nat} {q : Int} (hD : D ≠ 0) : quotient b64 (.fin s c q) (.fin false D (-49)) = roundRatio b64 (s != false) c D (q - -49) := by
  unfold quotient; exact if_neg hD
theorem own_fin8 {a b D P X : Nat} (hP : 0 < P) (hD : D = 8 * P) (h : ((a * P : Nat) : Int) - ((b : Int) * (D : Int)) ≤ (D * X : Nat)) : (a : Int) - 8 * (b : Int) ≤ ((8 * X : Nat) : Int) := by
  subst hD
  have e1 : ((b : Int) * ((8 * P : Nat) : Int)) = (8 * (b : Int)) * (P : Int) := by rw [Int.natCast_mul]; show (b : Int) * (8 * (P : Int)) = _; rw [← Int.mul_assoc, Int.mul_comm (b : Int) 8]
  have e2 : ((8 * P * X : Nat) : Int) = ((8 * X : Nat) : Int) * (P : Int) := by rw [← Int.natCast_mul]; congr 1; rw [Nat.mul_assoc, Nat.mul_assoc, Nat.mul_comm P X]
  rw [Int.natCast_mul, e1, e2, ← Int.sub_mul] at h
  exact Int.le_of_mul_le_mul_right h (by omega)
theorem own_fin8' {a b D P X : Nat} (hP : 0 < P) (hD : D = 8 * P) (h : ((b : Int) * (D : Int)) - ((a * P : Nat) : Int) ≤ (D * X : Nat)) : 8 * (b : Int) - (a : Int) ≤ ((8 * X : Nat) : Int) := by
  subst hD
  have e1 : ((b : Int) * ((8 * P : Nat) : Int)) = (8 * (b : Int)) * (P : Int) := by rw [Int.natCast_mul]; show (b : Int) * (8 * (P : Int)) = _; rw [← Int.mul_assoc, Int.mul_comm (b : Int) 8]
  have e2 : ((8 * P * X : Nat) : Int) = ((8 * X : Nat) : Int) * (P : Int) := by rw [← Int.natCast_mul]; congr 1; rw [Nat.mul_assoc, Nat.mul_assoc, Nat.mul_comm P X]
  rw [Int.natCast_mul a P, e1, e2, ← Int.sub_mul] at h
  exact Int.le_of_mul_le_mul_right h (by omega)
theorem own_div8 (m D P : Nat) {x y : UInt64} {v : Int} (hP : P = 2 ^ 49) (hD : D = 8 * P) (hy : val64 y = .fin false D (-49)) (hx : own_Is x v) (hm : m ≤ 200) (hb : v.natAbs < 8 * (2 ^ (m + 53) * own_u)) :
    ∃ z, own_Is (ddiv x y) z ∧ (v - 8 * z).natAbs ≤ 8 * (2 ^ m * own_u) := by
  have hP0 : 0 < P := by rw [hP]; exact Nat.two_pow_pos _
  obtain ⟨s, c, q, h1, h2, h3⟩ := hx
  have hp := val64_ddiv x y
  rw [h1, hy, own_qt (by omega)] at hp
  have e0 : (-1200 - ((0 : Nat) : Int)) = -1200 := by omega
  have e1 : inUnits c (q - -49) (-1200) = inUnits c q (-1200) * P := by
    unfold inUnits
    rw [hP, show (q - -49 - -1200).toNat = (q - -1200).toNat + 49 by omega, Nat.pow_add, Nat.mul_assoc]
  have e2 : v.natAbs = inUnits c q (-1200) := by rw [h3]; exact natAbs_signed _ _
  obtain ⟨c', q', k1, k2, k3⟩ := own_round 0 m (s := s != false) (A := c) (B := D) (e := q - -49) (by omega) hm (by omega) (by omega) (by
    rw [e0, e1, ← e2]
    calc v.natAbs * P < 8 * (2 ^ (m + 53) * own_u) * P := Nat.mul_lt_mul_of_pos_right hb hP0
      _ = D * (2 ^ (m + 53) * own_u) := by rw [hD, Nat.mul_right_comm])
  refine ⟨signed (s != false) (inUnits c' q' (-1200)), ⟨_, c', q', by rw [hp, k1], k2, rfl⟩, ?_⟩
  unfold distance at k3
  rw [e0, e1] at k3
  have e3 : (s != false) = s := by cases s <;> rfl
  have e4 : (8 : Int) * signed s (inUnits c' q' (-1200)) = signed s (8 * inUnits c' q' (-1200)) := by rw [own_smul]; rfl
  rw [e3, e4, h3, own_sgn]
  generalize inUnits c q (-1200) = N at k3 ⊢
  generalize inUnits c' q' (-1200) = M at k3 ⊢
  generalize 2 ^ m * own_u = X at k3 ⊢
  have r1 := own_fin8 (a := N) (b := M) (X := X) hP0 hD (by omega)
  have r2 := own_fin8' (a := N) (b := M) (X := X) hP0 hD (by omega)
  omega
theorem own_sabs (i : Int) : signed (decide (i < 0)) i.natAbs = i := by
  by_cases hn : i < 0
  · simp only [hn, decide_true, signed, if_true]; omega
  · simp only [hn, decide_false, signed]; simp; omega
theorem own_int (m : Nat) (i : Int) {x : UInt64} (hx : val64 x = round b64 (ofInt i)) (hm : m ≤ 200) (hb : i.natAbs * 2 ^ 50 < 2 ^ (m + 53)) :
    ∃ z, own_Is x z ∧ (i * ((2 ^ 50 * own_u : Nat) : Int) - z).natAbs ≤ 2 ^ m * own_u := by
  have eu : inUnits i.natAbs 0 (-1200 - ((0 : Nat) : Int)) = i.natAbs * (2 ^ 50 * own_u) := by
    unfold inUnits own_u
    rw [show (0 - (-1200 - ((0 : Nat) : Int))).toNat = 50 + 1150 by omega, Nat.pow_add]
  have ev : i * ((2 ^ 50 * own_u : Nat) : Int) = signed (decide (i < 0)) (inUnits i.natAbs 0 (-1200 - ((0 : Nat) : Int))) := by
    rw [eu, signed_mul, own_sabs]
  obtain ⟨z, hz, hd⟩ := own_near 0 m (s := decide (i < 0)) (A := i.natAbs) (e := 0) hx (by omega) hm (by omega) ev (by
    rw [ev, natAbs_signed, eu, ← Nat.mul_assoc]
    exact Nat.mul_lt_mul_of_pos_right hb own_u_pos)
  exact ⟨z, hz, by simpa using hd⟩
theorem own_lt {x y : UInt64} {v w : Int} (hx : own_Is x v) (hy : own_Is y w) (h : v < w) : dcmp x y = some .lt := by
  obtain ⟨s, c, q, h1, h2, h3⟩ := hx
  obtain ⟨t, d, r, g1, g2, g3⟩ := hy
  show order (val64 x) (val64 y) = some .lt
  rw [h1, g1]
  show some (compare (signed s (inUnits c q (min q r))) (signed t (inUnits d r (min q r)))) = some .lt
  rw [own_units s c (r := min q r) (by omega) (by omega)] at h3
  rw [own_units t d (q := r) (r := min q r) (by omega) (by omega)] at g3
  have hlt : signed s (inUnits c q (min q r)) < signed t (inUnits d r (min q r)) := by
    rw [h3, g3] at h
    exact Int.lt_of_mul_lt_mul_right h (Int.natCast_nonneg _)
  congr 1
  exact Int.compare_eq_lt.mpr hlt
theorem own_abs {a b : Int} (h : a.natAbs ≤ b.toNat) (hb : 0 ≤ b) : -b ≤ a ∧ a ≤ b := by omega
theorem own_cA {u pu zp zv : Int} (a1 : -(536870912 * u) ≤ pu - zp ∧ pu - zp ≤ 536870912 * u) (a2 : -(536870912 * u) ≤ zp - 8 * zv ∧ zp - 8 * zv ≤ 536870912 * u) : -(1073741824 * u) ≤ pu - 8 * zv ∧ pu - 8 * zv ≤ 1073741824 * u := by omega
theorem own_cB {u pu zv z1 : Int} (hu : 0 < u) (hp : -(2417851639229258349412352 * u) ≤ pu ∧ pu ≤ 2417851639229258349412352 * u) (b1 : -(1073741824 * u) ≤ pu - 8 * zv ∧ pu - 8 * zv ≤ 1073741824 * u) (a3 : -(302231454903657293676544 * u) ≤ 6305039478318694 * zv - z1 * 9007199254740992 ∧ 6305039478318694 * zv - z1 * 9007199254740992 ≤ 302231454903657293676544 * u) : -(17179869184 * u) ≤ 80 * z1 - 7 * pu ∧ 80 * z1 - 7 * pu ≤ 17179869184 * u := by omega
theorem own_cC {u du zd z2 : Int} (hu : 0 < u) (hd : -(2417851639229258349412352 * u) ≤ du ∧ du ≤ 2417851639229258349412352 * u) (a4 : -(536870912 * u) ≤ du - zd ∧ du - zd ≤ 536870912 * u) (a5 : -(2417851639229258349412352 * u) ≤ 5404319552844595 * zd - z2 * 18014398509481984 ∧ 5404319552844595 * zd - z2 * 18014398509481984 ≤ 2417851639229258349412352 * u) : -(34359738368 * u) ≤ 80 * z2 - 24 * du ∧ 80 * z2 - 24 * du ≤ 34359738368 * u := by omega
theorem own_cD {u zr zs : Int} (hu : 0 < u) (a7 : -(1208925819614629174706176 * u) ≤ 5629499534213120 * zr - zs * 70368744177664 ∧ 5629499534213120 * zr - zs * 70368744177664 ≤ 1208925819614629174706176 * u) : -(17179869184 * u) ≤ 80 * zr - zs ∧ 80 * zr - zs ≤ 17179869184 * u := by omega
theorem own_cE {u pu du z1 z2 zr zs zl zh : Int} (hu : 0 < u) (b : -(17179869184 * u) ≤ 80 * z1 - 7 * pu ∧ 80 * z1 - 7 * pu ≤ 17179869184 * u) (c : -(34359738368 * u) ≤ 80 * z2 - 24 * du ∧ 80 * z2 - 24 * du ≤ 34359738368 * u) (d : -(17179869184 * u) ≤ 80 * zr - zs ∧ 80 * zr - zs ≤ 17179869184 * u)
    (a6 : -(134217728 * u) ≤ z1 + z2 - zr ∧ z1 + z2 - zr ≤ 134217728 * u) (a8 : -(17179869184 * u) ≤ 7 * pu + 24 * du - 1125899906842624 * u - zl ∧ 7 * pu + 24 * du - 1125899906842624 * u - zl ≤ 17179869184 * u) (a9 : -(17179869184 * u) ≤ 7 * pu + 24 * du + 1125899906842624 * u - zh ∧ 7 * pu + 24 * du + 1125899906842624 * u - zh ≤ 17179869184 * u) : zl < zs ∧ zs < zh := by
  have s1 : -(137438953472 * u) ≤ zs - (7 * pu + 24 * du) ∧ zs - (7 * pu + 24 * du) ≤ 137438953472 * u := by omega
  clear b c d a6
  constructor <;> omega
theorem own_lit {a b : Nat} (h : a = b) : a * own_u = b * own_u := by rw [h]
theorem own_two {a : Int} {N : Nat} (h : a.natAbs ≤ N) : -(N : Int) ≤ a ∧ a ≤ N := by omega
theorem own_v8 : val64 4620693217682128896 = .fin false 4503599627370496 (-49) := by decide +kernel
theorem own_v7 : val64 4604480259023595110 = .fin false 6305039478318694 (-((53 : Nat) : Int)) := by decide +kernel
theorem own_v3 : val64 4599075939470750515 = .fin false 5404319552844595 (-((54 : Nat) : Int)) := by decide +kernel
theorem own_v80 : val64 4635329916471083008 = .fin false 5629499534213120 (-((46 : Nat) : Int)) := by decide +kernel
theorem own_bd {P X : Int} (h : -2147483648 ≤ P ∧ P ≤ 2147483648) (hX : 0 ≤ X) : -(2147483648 * X) ≤ P * X ∧ P * X ≤ 2147483648 * X := by
  have a := Int.mul_le_mul_of_nonneg_right h.1 hX
  have b := Int.mul_le_mul_of_nonneg_right h.2 hX
  rw [Int.neg_mul] at a
  exact ⟨a, b⟩
theorem own_lin (P D X : Int) : (7 * P + 24 * D - 1) * X = 7 * (P * X) + 24 * (D * X) - X ∧ (7 * P + 24 * D + 1) * X = 7 * (P * X) + 24 * (D * X) + X := by
  constructor
  · rw [Int.sub_mul, Int.add_mul, Int.mul_assoc, Int.mul_assoc, Int.one_mul]
  · rw [Int.add_mul, Int.add_mul, Int.mul_assoc, Int.mul_assoc, Int.one_mul]
theorem own_all {P D : Int} (hP : -2147483648 ≤ P ∧ P ≤ 2147483648) (hD : -2147483648 ≤ D ∧ D ≤ 2147483648) {xp xd xl xh : UInt64} (vp : val64 xp = round b64 (ofInt P)) (vd : val64 xd = round b64 (ofInt D))
    (vl : val64 xl = round b64 (ofInt (7 * P + 24 * D - 1))) (vh : val64 xh = round b64 (ofInt (7 * P + 24 * D + 1))) :
    val64 (ddiv xp 4620693217682128896) ≠ .nan ∧ val64 (dmul 4604480259023595110 (ddiv xp 4620693217682128896)) ≠ .nan ∧ val64 (dmul 4599075939470750515 xd) ≠ .nan ∧
    val64 (dadd (dmul 4604480259023595110 (ddiv xp 4620693217682128896)) (dmul 4599075939470750515 xd)) ≠ .nan ∧
    val64 (dmul 4635329916471083008 (dadd (dmul 4604480259023595110 (ddiv xp 4620693217682128896)) (dmul 4599075939470750515 xd))) ≠ .nan ∧
    dcmp xl (dmul 4635329916471083008 (dadd (dmul 4604480259023595110 (ddiv xp 4620693217682128896)) (dmul 4599075939470750515 xd))) = some .lt ∧
    dcmp (dmul 4635329916471083008 (dadd (dmul 4604480259023595110 (ddiv xp 4620693217682128896)) (dmul 4599075939470750515 xd))) xh = some .lt := by
  have up := own_u_pos
  obtain ⟨zp, I1, a1⟩ := own_int 29 P vp (by decide) (by omega)
  obtain ⟨zd, I4, a4⟩ := own_int 29 D vd (by decide) (by omega)
  obtain ⟨zl, I8, a8⟩ := own_int 34 _ vl (by decide) (by omega)
  obtain ⟨zh, I9, a9⟩ := own_int 34 _ vh (by decide) (by omega)
  rw [(own_lin P D _).1] at a8
  rw [(own_lin P D _).2] at a9
  have bp := own_bd hP (Int.natCast_nonneg (2 ^ 50 * own_u))
  have bd := own_bd hD (Int.natCast_nonneg (2 ^ 50 * own_u))
  generalize P * ((2 ^ 50 * own_u : Nat) : Int) = pu at *
  generalize D * ((2 ^ 50 * own_u : Nat) : Int) = du at *
  have eX : ((2 ^ 50 * own_u : Nat) : Int) = 1125899906842624 * (own_u : Int) := by rw [own_lit (a := 2 ^ 50) (b := 1125899906842624) (by decide), Int.natCast_mul]; congr 1
  rw [eX] at bp bd a8 a9
  have e29 : 2 ^ 29 * own_u = 536870912 * own_u := own_lit (by decide)
  have e34 : 2 ^ 34 * own_u = 17179869184 * own_u := own_lit (by decide)
  rw [e29] at a1 a4
  rw [e34] at a8 a9
  obtain ⟨zv, I2, a2⟩ := own_div8 26 4503599627370496 562949953421312 (by decide) (by decide) own_v8 I1 (by decide) (by
    rw [show 8 * (2 ^ (26 + 53) * own_u) = 4835703278458516698824704 * own_u by rw [← Nat.mul_assoc]]; generalize own_u = u at *; omega)
  rw [show 8 * (2 ^ 26 * own_u) = 536870912 * own_u by rw [← Nat.mul_assoc]] at a2
  have A := own_cA (u := own_u) (pu := pu) (zp := zp) (zv := zv) (by generalize own_u = u at *; omega) (by generalize own_u = u at *; omega)
  obtain ⟨z1, I3, a3⟩ := own_mulc 53 78 6305039478318694 own_v7 I2 (by decide) (by decide) (by
    rw [own_lit (a := 2 ^ (78 + 53)) (b := 2722258935367507707706996859454145691648) (by decide)]; generalize own_u = u at *; omega)
  rw [own_lit (a := 2 ^ 78) (b := 302231454903657293676544) (by decide)] at a3
  have B := own_cB (u := own_u) (pu := pu) (zv := zv) (z1 := z1) (by omega) (by generalize own_u = u at *; omega) A (by generalize own_u = u at *; omega)
  obtain ⟨z2, I5, a5⟩ := own_mulc 54 81 5404319552844595 own_v3 I4 (by decide) (by decide) (by
    rw [own_lit (a := 2 ^ (81 + 53)) (b := 21778071482940061661655974875633165533184) (by decide)]; generalize own_u = u at *; omega)
  rw [own_lit (a := 2 ^ 81) (b := 2417851639229258349412352) (by decide)] at a5
  have C := own_cC (u := own_u) (du := du) (zd := zd) (z2 := z2) (by omega) (by generalize own_u = u at *; omega) (by generalize own_u = u at *; omega) (by generalize own_u = u at *; omega)
  obtain ⟨zr, I6, a6⟩ := own_sum 27 I3 I5 (by decide) (by
    rw [own_lit (a := 2 ^ (27 + 53)) (b := 1208925819614629174706176) (by decide)]; generalize own_u = u at *; clear a1 a2 a3 a4 a5 a8 a9 A; omega)
  rw [own_lit (a := 2 ^ 27) (b := 134217728) (by decide)] at a6
  obtain ⟨zs, I7, a7⟩ := own_mulc 46 80 5629499534213120 own_v80 I6 (by decide) (by decide) (by
    rw [own_lit (a := 2 ^ (80 + 53)) (b := 10889035741470030830827987437816582766592) (by decide)]; generalize own_u = u at *; clear a1 a2 a3 a4 a5 a8 a9 A; omega)
  rw [own_lit (a := 2 ^ 80) (b := 1208925819614629174706176) (by decide)] at a7
  have Dd := own_cD (u := own_u) (zr := zr) (zs := zs) (by omega) (by generalize own_u = u at *; omega)
  have E := own_cE (u := own_u) (pu := pu) (du := du) (z1 := z1) (z2 := z2) (zr := zr) (zs := zs) (zl := zl) (zh := zh) (by omega) B C Dd (by generalize own_u = u at *; omega) (by generalize own_u = u at *; omega) (by generalize own_u = u at *; omega)
  exact ⟨I2.fin, I3.fin, I5.fin, I6.fin, I7.fin, own_lt I8 I7 E.1, own_lt I7 I9 E.2⟩
end Jvm.OwnFl
namespace Jvm.Pilot.@@N@@
open Jvm Jvm.ClassFile Sem Op Lib Jvm.Free Jvm.Stand Jvm.LawKit Jvm.RoadKit Bundle Jvm.Pilot.@@N@@.Jvm.D
theorem own_pin (p0 p1 : Int32) {E : Int64} (hE : E = (7 : Int64) * p1.toInt64 + (24 : Int64) * p0.toInt64) : Jvm.Free.Fl.NoNaN64 (FP.ddiv (FP.i2d p1) (4620693217682128896 : UInt64)) ∧ Jvm.Free.Fl.NoNaN64 (FP.dmul (4604480259023595110 : UInt64) (FP.ddiv (FP.i2d p1) (4620693217682128896 : UInt64))) ∧ Jvm.Free.Fl.NoNaN64 (FP.dmul (4599075939470750515 : UInt64) (FP.i2d p0)) ∧ Jvm.Free.Fl.NoNaN64 (FP.dadd (FP.dmul (4604480259023595110 : UInt64) (FP.ddiv (FP.i2d p1) (4620693217682128896 : UInt64))) (FP.dmul (4599075939470750515 : UInt64) (FP.i2d p0))) ∧ Jvm.Free.Fl.NoNaN64 (FP.dmul (4635329916471083008 : UInt64) (FP.dadd (FP.dmul (4604480259023595110 : UInt64) (FP.ddiv (FP.i2d p1) (4620693217682128896 : UInt64))) (FP.dmul (4599075939470750515 : UInt64) (FP.i2d p0)))) ∧
    FP.dcmp (FP.l2d (E - (1 : Int64))) (FP.dmul (4635329916471083008 : UInt64) (FP.dadd (FP.dmul (4604480259023595110 : UInt64) (FP.ddiv (FP.i2d p1) (4620693217682128896 : UInt64))) (FP.dmul (4599075939470750515 : UInt64) (FP.i2d p0)))) = some .lt ∧ FP.dcmp (FP.dmul (4635329916471083008 : UInt64) (FP.dadd (FP.dmul (4604480259023595110 : UInt64) (FP.ddiv (FP.i2d p1) (4620693217682128896 : UInt64))) (FP.dmul (4599075939470750515 : UInt64) (FP.i2d p0)))) (FP.l2d (E + (1 : Int64))) = some .lt := by
  have r0 := rng32 p0; have r1 := rng32 p1
  have m1 := c_lmul (7 : Int64) p1.toInt64; have m2 := c_lmul (24 : Int64) p0.toInt64
  have k7 : (7 : Int64).toInt = 7 := by decide
  have k24 : (24 : Int64).toInt = 24 := by decide
  have k1 : (1 : Int64).toInt = 1 := by decide
  rw [c_i2l, k7] at m1; rw [c_i2l, k24] at m2
  have s1 := c_ladd ((7 : Int64) * p1.toInt64) ((24 : Int64) * p0.toInt64); rw [← hE] at s1
  have q1 := rng64 ((7 : Int64) * p1.toInt64); have q2 := rng64 ((24 : Int64) * p0.toInt64); have q3 := rng64 E
  have eE : E.toInt = 7 * p1.toInt + 24 * p0.toInt := by omega
  have s2 := c_lsub E 1; have s3 := c_ladd E 1; rw [k1] at s2 s3
  have q4 := rng64 (E - 1); have q5 := rng64 (E + 1)
  have el : (E - 1).toInt = 7 * p1.toInt + 24 * p0.toInt - 1 := by omega
  have eh : (E + 1).toInt = 7 * p1.toInt + 24 * p0.toInt + 1 := by omega
  obtain ⟨a1, a2, a3, a4, a5, a6, a7⟩ := Jvm.OwnFl.own_all (P := p1.toInt) (D := p0.toInt) ⟨by omega, by omega⟩ ⟨by omega, by omega⟩ (FP.Core.val64_i2d p1) (FP.Core.val64_i2d p0) (el ▸ FP.Core.val64_l2d (E - 1)) (eh ▸ FP.Core.val64_l2d (E + 1))
  exact ⟨Jvm.Free.Fl.val64_no.mpr a1, Jvm.Free.Fl.val64_no.mpr a2, Jvm.Free.Fl.val64_no.mpr a3, Jvm.Free.Fl.val64_no.mpr a4, Jvm.Free.Fl.val64_no.mpr a5, a6, a7⟩
theorem own_ef_piv (m : MethodId) (x0 : Int32) (x1 : UInt64) : entryFrame m #[(.int x0), (.double x1)] 3 = mkF m 0 #[.val (.int x0), .val (.double x1), .second] [] := by first | (simp [entryFrame, mkF, argsToLocals, Value.category]; done) | rfl
theorem own_pn_com_example_shrike_shrike_model_SmartWeighting_Normalization : plainName "com/example/shrike/shrike/model/SmartWeighting$Normalization" = true := by first | (simp [plainName, overriddenIn]; done) | decide +kernel
theorem own_d_prog_75_method_5_0 : decode prog_75_method_5_code 0 = .ok (.ldc2_w 36, 3) := by decide +kernel
theorem own_d_prog_75_method_5_3 : decode prog_75_method_5_code 3 = .ok (.dload_n 1, 1) := by decide +kernel
theorem own_d_prog_75_method_5_4 : decode prog_75_method_5_code 4 = .ok (.dmul, 1) := by decide +kernel
theorem own_d_prog_75_method_5_5 : decode prog_75_method_5_code 5 = .ok (.ldc2_w 38, 3) := by decide +kernel
theorem own_d_prog_75_method_5_8 : decode prog_75_method_5_code 8 = .ok (.iload_n 0, 1) := by decide +kernel
theorem own_d_prog_75_method_5_9 : decode prog_75_method_5_code 9 = .ok (.i2d, 1) := by decide +kernel
theorem own_d_prog_75_method_5_10 : decode prog_75_method_5_code 10 = .ok (.dmul, 1) := by decide +kernel
theorem own_d_prog_75_method_5_11 : decode prog_75_method_5_code 11 = .ok (.dadd, 1) := by decide +kernel
theorem own_d_prog_75_method_5_12 : decode prog_75_method_5_code 12 = .ok (.dreturn, 1) := by decide +kernel
def Q_piv (Z : State) (d : Int32) (pv : UInt64) (h0 : Heap) (n0 : Nat) (rv_ : Option Value) (h_ : Heap) (L_ : List Loc) : Prop := rv_ = some (.double (FP.dadd (FP.dmul (4604480259023595110 : UInt64) pv) (FP.dmul (4599075939470750515 : UInt64) (FP.i2d d)))) ∧ Fr n0 L_ ∧ h_ = h0
set_option maxRecDepth 65536 in
set_option maxHeartbeats 40000000 in
theorem rm_piv (l : Launch) (Z : State) (a0 : Array Value) (hw : ∀ d ∈ tables_1, d.before a0 Z = true) (ws : List Jvm.Cond) (d : Int32) (pv : UInt64) (h0 : Heap) (n0 : Nat) (Z0 : n0 ≤ h0.size) (h1 : Jvm.Free.Fl.NoNaN64 (FP.dmul (4604480259023595110 : UInt64) pv)) (h2 : Jvm.Free.Fl.NoNaN64 (FP.dmul (4599075939470750515 : UInt64) (FP.i2d d))) (h3 : Jvm.Free.Fl.NoNaN64 (FP.dadd (FP.dmul (4604480259023595110 : UInt64) pv) (FP.dmul (4599075939470750515 : UInt64) (FP.i2d d)))) :
    MetFree l (⟨"com/example/shrike/shrike/model/SmartWeighting$Normalization", "pivotedUnique", "(ID)D"⟩ : MethodName) (head1 (Jvm.Cond.code (⟨"com/example/shrike/shrike/model/SmartWeighting$Normalization", "pivotedUnique", "(ID)D"⟩ : MethodName) prog_75_method_5_code 3 (some .double) :: ws) ({ frames := 0, cells := 0, slots := 0, locals := 0 } : Room)) (fun as_ U => as_ = #[(.int d), (.double pv)] ∧ Z.Warmed39 U.vm ∧ U.heap = h0) (fun _ _ _ _ _ => True) (fun _ U o U' => ∃ rv_ L_, o = .returned rv_ ∧ Q_piv Z d pv h0 n0 rv_ U'.heap L_ ∧ FrameEnd U o U' L_ ({ frames := 0, cells := 0, slots := 0, locals := 0 } : Room).cells ({ frames := 0, cells := 0, slots := 0, locals := 0 } : Room).slots) := by
  refine MetFree.of_bodySF (plainFor_of_name own_pn_com_example_shrike_shrike_model_SmartWeighting_Normalization) hisR ?_
  intro p e s m args below meth c s₁ Bd hml0 hP hK
  obtain ⟨rfl, hZ, hh⟩ := hP
  have hx := Bd.exec
  have hby := Bd.bytes
  have hml : c.maxLocals = 3 := hml0
  have hown : s.vm.findClass "com/example/shrike/shrike/model/SmartWeighting$Normalization" = some m.cls := findClass_of_methodNamed Bd.named
  have hnm := (name_of_methodNamed Bd.named Bd.method).1
  have X0 : Stand p l e ({ frames := 0, cells := 0, slots := 0, locals := 0 } : Room) s m #[(.int d), (.double pv)] below meth c s₁ [] 0 0 := Stand.of_body Bd
  have e0 : s₁.heap = h0 := by rw [← hh, Bd.state]; rfl
  have N0 := Fr.nil n0
  refine own_Goes.of ?_
  refine own_Goes.nm (fun P hPP => ?_)
  refine own_Goes.st ?_ (fun _ k => castTop (own_ef_piv m d pv) k)
  show own_Goes p.tables e below P (s₁.setTop (mkF m 0 #[.val (.int d), .val (.double pv), .second] []))
  refine own_Goes.st ?_ (X0.ldc2DoubleC hx hown (mvT hZ (hw _ (List.mem_of_getElem? (i := 5) rfl))) (g := (mkF m 0 #[.val (.int d), .val (.double pv), .second] [])) rfl (hb hby own_d_prog_75_method_5_0))
  show own_Goes p.tables e below P (s₁.setTop (mkF m 3 #[.val (.int d), .val (.double pv), .second] [(.double (4604480259023595110 : UInt64))]))
  refine own_Goes.st ?_ (fun _ k => XS.dloadN X0.here hx rfl (hb hby own_d_prog_75_method_5_3) rfl k)
  show own_Goes p.tables e below P (s₁.setTop (mkF m 4 #[.val (.int d), .val (.double pv), .second] [(.double pv), (.double (4604480259023595110 : UInt64))]))
  refine own_Goes.st ?_ (fun _ k => XS.dmulS X0.here hx rfl (hb hby own_d_prog_75_method_5_4) rfl h1 rfl k)
  show own_Goes p.tables e below P (s₁.setTop (mkF m 5 #[.val (.int d), .val (.double pv), .second] [(.double (FP.dmul (4604480259023595110 : UInt64) pv))]))
  refine own_Goes.st ?_ (X0.ldc2DoubleC hx hown (mvT hZ (hw _ (List.mem_of_getElem? (i := 6) rfl))) (g := (mkF m 5 #[.val (.int d), .val (.double pv), .second] [(.double (FP.dmul (4604480259023595110 : UInt64) pv))])) rfl (hb hby own_d_prog_75_method_5_5))
  show own_Goes p.tables e below P (s₁.setTop (mkF m 8 #[.val (.int d), .val (.double pv), .second] [(.double (4599075939470750515 : UInt64)), (.double (FP.dmul (4604480259023595110 : UInt64) pv))]))
  refine own_Goes.st ?_ (fun _ k => XS.iloadN X0.here hx rfl (hb hby own_d_prog_75_method_5_8) rfl k)
  show own_Goes p.tables e below P (s₁.setTop (mkF m 9 #[.val (.int d), .val (.double pv), .second] [(.int d), (.double (4599075939470750515 : UInt64)), (.double (FP.dmul (4604480259023595110 : UInt64) pv))]))
  refine own_Goes.st ?_ (fun _ k => XS.i2dS X0.here hx rfl (hb hby own_d_prog_75_method_5_9) rfl rfl k)
  show own_Goes p.tables e below P (s₁.setTop (mkF m 10 #[.val (.int d), .val (.double pv), .second] [(.double (FP.i2d d)), (.double (4599075939470750515 : UInt64)), (.double (FP.dmul (4604480259023595110 : UInt64) pv))]))
  refine own_Goes.st ?_ (fun _ k => XS.dmulS X0.here hx rfl (hb hby own_d_prog_75_method_5_10) rfl h2 rfl k)
  show own_Goes p.tables e below P (s₁.setTop (mkF m 11 #[.val (.int d), .val (.double pv), .second] [(.double (FP.dmul (4599075939470750515 : UInt64) (FP.i2d d))), (.double (FP.dmul (4604480259023595110 : UInt64) pv))]))
  refine own_Goes.st ?_ (fun _ k => XS.daddS X0.here hx rfl (hb hby own_d_prog_75_method_5_11) rfl h3 rfl k)
  show own_Goes p.tables e below P (s₁.setTop (mkF m 12 #[.val (.int d), .val (.double pv), .second] [(.double (FP.dadd (FP.dmul (4604480259023595110 : UInt64) pv) (FP.dmul (4599075939470750515 : UInt64) (FP.i2d d))))]))
  obtain ⟨fs, hr, hrun, hended, hW, hsame⟩ := X0.leave (v := some (.double (FP.dadd (FP.dmul (4604480259023595110 : UInt64) pv) (FP.dmul (4599075939470750515 : UInt64) (FP.i2d d))))) (fun h => by rw [Bd.returns] at h; cases h)
  exact own_Goes.fin _ _ (retOut X0 hx (t := .double) Bd.returns rfl (Or.inr (Or.inr (Or.inl ⟨rfl, rfl, _, rfl⟩))) (hb hby own_d_prog_75_method_5_12) hr) (hPP _ _ ⟨hrun, hended, _, _, rfl, (by show Q_piv Z d pv h0 n0 _ s₁.heap _; rw [e0]; exact ⟨rfl, N0, rfl⟩), ⟨_, rfl⟩, hW, hsame.mono (by decide) (by decide)⟩)
theorem own_ef_law (m : MethodId) (x0 : Int32) (x1 : Int32) : entryFrame m #[(.int x0), (.int x1)] maxLocals = mkF m 0 #[.val (.int x0), .val (.int x1), .unset, .unset, .unset, .unset, .unset, .unset, .unset, .unset] [] := by first | (simp [entryFrame, mkF, argsToLocals, Value.category, maxLocals]; done) | rfl
theorem own_pn_com_example_shrike_shrike_model_NormalizationPivotedUniquePinLaw : plainName "com/example/shrike/shrike/model/NormalizationPivotedUniquePinLaw" = true := by first | (simp [plainName, overriddenIn]; done) | decide +kernel
theorem own_pd__28_ID_29_D : parseMethodDescriptor "(ID)D" = some ⟨[.int, .double], some .double⟩ := by decide +kernel
def Q_law (n0 : Nat) (v : Option Value) (L : List Loc) : Prop := v = some (.int 1) ∧ Fr n0 L
set_option maxRecDepth 65536 in
set_option maxHeartbeats 40000000 in
theorem rm_law (l : Launch) (Z : State) (a0 : Array Value) (hw : ∀ d ∈ tables_1, d.before a0 Z = true) (ws : List Jvm.Cond) (p0 : Int32) (p1 : Int32) (h0 : Heap) (n0 : Nat) (Z0 : n0 ≤ h0.size) :
    MetFree l x (head1 (Jvm.Cond.code x code maxLocals ret :: ws) room_1) (fun as_ U => as_ = #[(.int p0), (.int p1)] ∧ Z.Warmed39 U.vm ∧ U.heap = h0) (fun _ _ _ _ _ => True) (fun _ U o U' => ∃ v L, o = .returned v ∧ Q_law n0 v L ∧ FrameEnd U o U' L 0 0) := by
  refine MetFree.of_bodySF (plainFor_of_name own_pn_com_example_shrike_shrike_model_NormalizationPivotedUniquePinLaw) hisR ?_
  intro p e s m args below meth c s₁ Bd hml0 hP hK
  obtain ⟨rfl, hZ, hh⟩ := hP
  have hx := Bd.exec
  have hby := Bd.bytes
  have hml : c.maxLocals = 10 := hml0
  have hown : s.vm.findClass "com/example/shrike/shrike/model/NormalizationPivotedUniquePinLaw" = some m.cls := findClass_of_methodNamed Bd.named
  have hnm := (name_of_methodNamed Bd.named Bd.method).1
  have X0 : Stand p l e room_1 s m #[(.int p0), (.int p1)] below meth c s₁ [] 0 0 := Stand.of_body Bd
  have e0 : s₁.heap = h0 := by rw [← hh, Bd.state]; rfl
  have N0 := Fr.nil n0
  refine own_Goes.of ?_
  refine own_Goes.nm (fun P hPP => ?_)
  refine own_Goes.st ?_ (fun _ k => castTop (own_ef_law m p0 p1) k)
  show own_Goes p.tables e below P (s₁.setTop (mkF m 0 #[.val (.int p0), .val (.int p1), .unset, .unset, .unset, .unset, .unset, .unset, .unset, .unset] []))
  obtain ⟨nn1, nn2, nn3, nn4, nn5, lq1, lq2⟩ := own_pin p0 p1 rfl
  refine own_Goes.st ?_ (fun _ k => XS.iloadN X0.here hx rfl (hb hby at_0) rfl k)
  show own_Goes p.tables e below P (s₁.setTop (mkF m 1 #[.val (.int p0), .val (.int p1), .unset, .unset, .unset, .unset, .unset, .unset, .unset, .unset] [(.int p1)]))
  refine own_Goes.st ?_ (fun _ k => XS.i2dS X0.here hx rfl (hb hby at_1) rfl rfl k)
  show own_Goes p.tables e below P (s₁.setTop (mkF m 2 #[.val (.int p0), .val (.int p1), .unset, .unset, .unset, .unset, .unset, .unset, .unset, .unset] [(.double (FP.i2d p1))]))
  refine own_Goes.st ?_ (X0.ldc2DoubleC hx hown (mvT hZ (hw _ (List.mem_of_getElem? (i := 0) rfl))) (g := (mkF m 2 #[.val (.int p0), .val (.int p1), .unset, .unset, .unset, .unset, .unset, .unset, .unset, .unset] [(.double (FP.i2d p1))])) rfl (hb hby at_2))
  show own_Goes p.tables e below P (s₁.setTop (mkF m 5 #[.val (.int p0), .val (.int p1), .unset, .unset, .unset, .unset, .unset, .unset, .unset, .unset] [(.double (4620693217682128896 : UInt64)), (.double (FP.i2d p1))]))
  refine own_Goes.st ?_ (fun _ k => XS.ddivS X0.here hx rfl (hb hby at_5) rfl nn1 rfl k)
  show own_Goes p.tables e below P (s₁.setTop (mkF m 6 #[.val (.int p0), .val (.int p1), .unset, .unset, .unset, .unset, .unset, .unset, .unset, .unset] [(.double (FP.ddiv (FP.i2d p1) (4620693217682128896 : UInt64)))]))
  refine own_Goes.st ?_ (fun _ k => XS.dstoreN X0.here hx rfl (hb hby at_6) rfl (l' := #[.val (.int p0), .val (.int p1), .val (.double (FP.ddiv (FP.i2d p1) (4620693217682128896 : UInt64))), .second, .unset, .unset, .unset, .unset, .unset, .unset]) rfl k)
  show own_Goes p.tables e below P (s₁.setTop (mkF m 7 #[.val (.int p0), .val (.int p1), .val (.double (FP.ddiv (FP.i2d p1) (4620693217682128896 : UInt64))), .second, .unset, .unset, .unset, .unset, .unset, .unset] []))
  refine own_Goes.st ?_ (fun _ k => XS.iloadN X0.here hx rfl (hb hby at_7) rfl k)
  show own_Goes p.tables e below P (s₁.setTop (mkF m 8 #[.val (.int p0), .val (.int p1), .val (.double (FP.ddiv (FP.i2d p1) (4620693217682128896 : UInt64))), .second, .unset, .unset, .unset, .unset, .unset, .unset] [(.int p0)]))
  refine own_Goes.st ?_ (fun _ k => XS.dloadN X0.here hx rfl (hb hby at_8) rfl k)
  show own_Goes p.tables e below P (s₁.setTop (mkF m 9 #[.val (.int p0), .val (.int p1), .val (.double (FP.ddiv (FP.i2d p1) (4620693217682128896 : UInt64))), .second, .unset, .unset, .unset, .unset, .unset, .unset] [(.double (FP.ddiv (FP.i2d p1) (4620693217682128896 : UInt64))), (.int p0)]))
  obtain ⟨_, _, ⟨T1, L1, k1, n1⟩, -, X1, ⟨Lc1, hQ1, l1, y1, z1⟩, st1⟩ := Jvm.LawKit.callS X0 hx (y := (⟨"com/example/shrike/shrike/model/SmartWeighting$Normalization", "pivotedUnique", "(ID)D"⟩ : MethodName)) hown (mvT hZ (hw _ (List.mem_of_getElem? (i := 1) rfl))) (mvT hZ (hw _ (List.mem_of_getElem? (i := 2) rfl))) (mvT hZ (hw _ (List.mem_of_getElem? (i := 3) rfl))) (mvT hZ (hw _ (List.mem_of_getElem? (i := 4) rfl))) (by decide) (backOf (W := 0) (rm_piv l Z a0 hw [] p0 (FP.ddiv (FP.i2d p1) (4620693217682128896 : UInt64)) h0 n0 Z0 nn2 nn3 nn4) hZ (hw _ (List.mem_of_getElem? (i := 4) rfl)) (hw _ (List.mem_of_getElem? (i := 3) rfl)) (by decide) (by decide)) (g := (mkF m 9 #[.val (.int p0), .val (.int p1), .val (.double (FP.ddiv (FP.i2d p1) (4620693217682128896 : UInt64))), .second, .unset, .unset, .unset, .unset, .unset, .unset] [(.double (FP.ddiv (FP.i2d p1) (4620693217682128896 : UInt64))), (.int p0)])) rfl (by rw [hml]; rfl) (argsL := [(.int p0), (.double (FP.ddiv (FP.i2d p1) (4620693217682128896 : UInt64)))]) (rest := []) (lenOf own_pd__28_ID_29_D rfl) rfl (by show 2 * 0 + _ ≤ _; exact Nat.le_of_eq rfl) (hb hby at_9) (fun _ _ => ⟨rfl, e0, (by decide : 0 + 0 ≤ _), (by decide : 0 + 0 ≤ _)⟩)
  dsimp only [Pt.U, Pt.locs, Pt.cells, Pt.slots] at X1 l1 y1 z1 st1 hQ1
  rw [l1, y1, z1] at X1
  obtain ⟨rfl, Nq1, e1⟩ := hQ1
  have N1 := Fr.app N0 Nq1
  refine own_Goes.st ?_ st1
  show own_Goes p.tables e below P (T1.setTop (mkF m 12 #[.val (.int p0), .val (.int p1), .val (.double (FP.ddiv (FP.i2d p1) (4620693217682128896 : UInt64))), .second, .unset, .unset, .unset, .unset, .unset, .unset] [(.double (FP.dadd (FP.dmul (4604480259023595110 : UInt64) (FP.ddiv (FP.i2d p1) (4620693217682128896 : UInt64))) (FP.dmul (4599075939470750515 : UInt64) (FP.i2d p0))))]))
  refine own_Goes.st ?_ (fun _ k => XS.dstore X1.here hx rfl (hb hby at_12) rfl (l' := #[.val (.int p0), .val (.int p1), .val (.double (FP.ddiv (FP.i2d p1) (4620693217682128896 : UInt64))), .second, .val (.double (FP.dadd (FP.dmul (4604480259023595110 : UInt64) (FP.ddiv (FP.i2d p1) (4620693217682128896 : UInt64))) (FP.dmul (4599075939470750515 : UInt64) (FP.i2d p0)))), .second, .unset, .unset, .unset, .unset]) rfl k)
  show own_Goes p.tables e below P (T1.setTop (mkF m 14 #[.val (.int p0), .val (.int p1), .val (.double (FP.ddiv (FP.i2d p1) (4620693217682128896 : UInt64))), .second, .val (.double (FP.dadd (FP.dmul (4604480259023595110 : UInt64) (FP.ddiv (FP.i2d p1) (4620693217682128896 : UInt64))) (FP.dmul (4599075939470750515 : UInt64) (FP.i2d p0)))), .second, .unset, .unset, .unset, .unset] []))
  refine own_Goes.st ?_ (X1.ldc2DoubleC hx hown (mvT hZ (hw _ (List.mem_of_getElem? (i := 7) rfl))) (g := (mkF m 14 #[.val (.int p0), .val (.int p1), .val (.double (FP.ddiv (FP.i2d p1) (4620693217682128896 : UInt64))), .second, .val (.double (FP.dadd (FP.dmul (4604480259023595110 : UInt64) (FP.ddiv (FP.i2d p1) (4620693217682128896 : UInt64))) (FP.dmul (4599075939470750515 : UInt64) (FP.i2d p0)))), .second, .unset, .unset, .unset, .unset] [])) rfl (hb hby at_14))
  show own_Goes p.tables e below P (T1.setTop (mkF m 17 #[.val (.int p0), .val (.int p1), .val (.double (FP.ddiv (FP.i2d p1) (4620693217682128896 : UInt64))), .second, .val (.double (FP.dadd (FP.dmul (4604480259023595110 : UInt64) (FP.ddiv (FP.i2d p1) (4620693217682128896 : UInt64))) (FP.dmul (4599075939470750515 : UInt64) (FP.i2d p0)))), .second, .unset, .unset, .unset, .unset] [(.double (4635329916471083008 : UInt64))]))
  refine own_Goes.st ?_ (fun _ k => XS.dload X1.here hx rfl (hb hby at_17) rfl k)
  show own_Goes p.tables e below P (T1.setTop (mkF m 19 #[.val (.int p0), .val (.int p1), .val (.double (FP.ddiv (FP.i2d p1) (4620693217682128896 : UInt64))), .second, .val (.double (FP.dadd (FP.dmul (4604480259023595110 : UInt64) (FP.ddiv (FP.i2d p1) (4620693217682128896 : UInt64))) (FP.dmul (4599075939470750515 : UInt64) (FP.i2d p0)))), .second, .unset, .unset, .unset, .unset] [(.double (FP.dadd (FP.dmul (4604480259023595110 : UInt64) (FP.ddiv (FP.i2d p1) (4620693217682128896 : UInt64))) (FP.dmul (4599075939470750515 : UInt64) (FP.i2d p0)))), (.double (4635329916471083008 : UInt64))]))
  refine own_Goes.st ?_ (fun _ k => XS.dmulS X1.here hx rfl (hb hby at_19) rfl nn5 rfl k)
  show own_Goes p.tables e below P (T1.setTop (mkF m 20 #[.val (.int p0), .val (.int p1), .val (.double (FP.ddiv (FP.i2d p1) (4620693217682128896 : UInt64))), .second, .val (.double (FP.dadd (FP.dmul (4604480259023595110 : UInt64) (FP.ddiv (FP.i2d p1) (4620693217682128896 : UInt64))) (FP.dmul (4599075939470750515 : UInt64) (FP.i2d p0)))), .second, .unset, .unset, .unset, .unset] [(.double (FP.dmul (4635329916471083008 : UInt64) (FP.dadd (FP.dmul (4604480259023595110 : UInt64) (FP.ddiv (FP.i2d p1) (4620693217682128896 : UInt64))) (FP.dmul (4599075939470750515 : UInt64) (FP.i2d p0)))))]))
  refine own_Goes.st ?_ (fun _ k => XS.dstore X1.here hx rfl (hb hby at_20) rfl (l' := #[.val (.int p0), .val (.int p1), .val (.double (FP.ddiv (FP.i2d p1) (4620693217682128896 : UInt64))), .second, .val (.double (FP.dadd (FP.dmul (4604480259023595110 : UInt64) (FP.ddiv (FP.i2d p1) (4620693217682128896 : UInt64))) (FP.dmul (4599075939470750515 : UInt64) (FP.i2d p0)))), .second, .val (.double (FP.dmul (4635329916471083008 : UInt64) (FP.dadd (FP.dmul (4604480259023595110 : UInt64) (FP.ddiv (FP.i2d p1) (4620693217682128896 : UInt64))) (FP.dmul (4599075939470750515 : UInt64) (FP.i2d p0))))), .second, .unset, .unset]) rfl k)
  show own_Goes p.tables e below P (T1.setTop (mkF m 22 #[.val (.int p0), .val (.int p1), .val (.double (FP.ddiv (FP.i2d p1) (4620693217682128896 : UInt64))), .second, .val (.double (FP.dadd (FP.dmul (4604480259023595110 : UInt64) (FP.ddiv (FP.i2d p1) (4620693217682128896 : UInt64))) (FP.dmul (4599075939470750515 : UInt64) (FP.i2d p0)))), .second, .val (.double (FP.dmul (4635329916471083008 : UInt64) (FP.dadd (FP.dmul (4604480259023595110 : UInt64) (FP.ddiv (FP.i2d p1) (4620693217682128896 : UInt64))) (FP.dmul (4599075939470750515 : UInt64) (FP.i2d p0))))), .second, .unset, .unset] []))
  refine own_Goes.st ?_ (X1.ldc2Long hx hown (mvT hZ (hw _ (List.mem_of_getElem? (i := 8) rfl))) (g := (mkF m 22 #[.val (.int p0), .val (.int p1), .val (.double (FP.ddiv (FP.i2d p1) (4620693217682128896 : UInt64))), .second, .val (.double (FP.dadd (FP.dmul (4604480259023595110 : UInt64) (FP.ddiv (FP.i2d p1) (4620693217682128896 : UInt64))) (FP.dmul (4599075939470750515 : UInt64) (FP.i2d p0)))), .second, .val (.double (FP.dmul (4635329916471083008 : UInt64) (FP.dadd (FP.dmul (4604480259023595110 : UInt64) (FP.ddiv (FP.i2d p1) (4620693217682128896 : UInt64))) (FP.dmul (4599075939470750515 : UInt64) (FP.i2d p0))))), .second, .unset, .unset] [])) rfl (hb hby at_22))
  show own_Goes p.tables e below P (T1.setTop (mkF m 25 #[.val (.int p0), .val (.int p1), .val (.double (FP.ddiv (FP.i2d p1) (4620693217682128896 : UInt64))), .second, .val (.double (FP.dadd (FP.dmul (4604480259023595110 : UInt64) (FP.ddiv (FP.i2d p1) (4620693217682128896 : UInt64))) (FP.dmul (4599075939470750515 : UInt64) (FP.i2d p0)))), .second, .val (.double (FP.dmul (4635329916471083008 : UInt64) (FP.dadd (FP.dmul (4604480259023595110 : UInt64) (FP.ddiv (FP.i2d p1) (4620693217682128896 : UInt64))) (FP.dmul (4599075939470750515 : UInt64) (FP.i2d p0))))), .second, .unset, .unset] [(.long (7 : Int64))]))
  refine own_Goes.st ?_ (fun _ k => XS.iloadN X1.here hx rfl (hb hby at_25) rfl k)
  show own_Goes p.tables e below P (T1.setTop (mkF m 26 #[.val (.int p0), .val (.int p1), .val (.double (FP.ddiv (FP.i2d p1) (4620693217682128896 : UInt64))), .second, .val (.double (FP.dadd (FP.dmul (4604480259023595110 : UInt64) (FP.ddiv (FP.i2d p1) (4620693217682128896 : UInt64))) (FP.dmul (4599075939470750515 : UInt64) (FP.i2d p0)))), .second, .val (.double (FP.dmul (4635329916471083008 : UInt64) (FP.dadd (FP.dmul (4604480259023595110 : UInt64) (FP.ddiv (FP.i2d p1) (4620693217682128896 : UInt64))) (FP.dmul (4599075939470750515 : UInt64) (FP.i2d p0))))), .second, .unset, .unset] [(.int p1), (.long (7 : Int64))]))
  refine own_Goes.st ?_ (fun _ k => XS.i2l X1.here hx rfl (hb hby at_26) rfl k)
  show own_Goes p.tables e below P (T1.setTop (mkF m 27 #[.val (.int p0), .val (.int p1), .val (.double (FP.ddiv (FP.i2d p1) (4620693217682128896 : UInt64))), .second, .val (.double (FP.dadd (FP.dmul (4604480259023595110 : UInt64) (FP.ddiv (FP.i2d p1) (4620693217682128896 : UInt64))) (FP.dmul (4599075939470750515 : UInt64) (FP.i2d p0)))), .second, .val (.double (FP.dmul (4635329916471083008 : UInt64) (FP.dadd (FP.dmul (4604480259023595110 : UInt64) (FP.ddiv (FP.i2d p1) (4620693217682128896 : UInt64))) (FP.dmul (4599075939470750515 : UInt64) (FP.i2d p0))))), .second, .unset, .unset] [(.long ((p1).toInt64)), (.long (7 : Int64))]))
  refine own_Goes.st ?_ (fun _ k => XS.lmul X1.here hx rfl (hb hby at_27) rfl k)
  show own_Goes p.tables e below P (T1.setTop (mkF m 28 #[.val (.int p0), .val (.int p1), .val (.double (FP.ddiv (FP.i2d p1) (4620693217682128896 : UInt64))), .second, .val (.double (FP.dadd (FP.dmul (4604480259023595110 : UInt64) (FP.ddiv (FP.i2d p1) (4620693217682128896 : UInt64))) (FP.dmul (4599075939470750515 : UInt64) (FP.i2d p0)))), .second, .val (.double (FP.dmul (4635329916471083008 : UInt64) (FP.dadd (FP.dmul (4604480259023595110 : UInt64) (FP.ddiv (FP.i2d p1) (4620693217682128896 : UInt64))) (FP.dmul (4599075939470750515 : UInt64) (FP.i2d p0))))), .second, .unset, .unset] [(.long ((7 : Int64) * ((p1).toInt64)))]))
  refine own_Goes.st ?_ (X1.ldc2Long hx hown (mvT hZ (hw _ (List.mem_of_getElem? (i := 9) rfl))) (g := (mkF m 28 #[.val (.int p0), .val (.int p1), .val (.double (FP.ddiv (FP.i2d p1) (4620693217682128896 : UInt64))), .second, .val (.double (FP.dadd (FP.dmul (4604480259023595110 : UInt64) (FP.ddiv (FP.i2d p1) (4620693217682128896 : UInt64))) (FP.dmul (4599075939470750515 : UInt64) (FP.i2d p0)))), .second, .val (.double (FP.dmul (4635329916471083008 : UInt64) (FP.dadd (FP.dmul (4604480259023595110 : UInt64) (FP.ddiv (FP.i2d p1) (4620693217682128896 : UInt64))) (FP.dmul (4599075939470750515 : UInt64) (FP.i2d p0))))), .second, .unset, .unset] [(.long ((7 : Int64) * ((p1).toInt64)))])) rfl (hb hby at_28))
  show own_Goes p.tables e below P (T1.setTop (mkF m 31 #[.val (.int p0), .val (.int p1), .val (.double (FP.ddiv (FP.i2d p1) (4620693217682128896 : UInt64))), .second, .val (.double (FP.dadd (FP.dmul (4604480259023595110 : UInt64) (FP.ddiv (FP.i2d p1) (4620693217682128896 : UInt64))) (FP.dmul (4599075939470750515 : UInt64) (FP.i2d p0)))), .second, .val (.double (FP.dmul (4635329916471083008 : UInt64) (FP.dadd (FP.dmul (4604480259023595110 : UInt64) (FP.ddiv (FP.i2d p1) (4620693217682128896 : UInt64))) (FP.dmul (4599075939470750515 : UInt64) (FP.i2d p0))))), .second, .unset, .unset] [(.long (24 : Int64)), (.long ((7 : Int64) * ((p1).toInt64)))]))
  refine own_Goes.st ?_ (fun _ k => XS.iloadN X1.here hx rfl (hb hby at_31) rfl k)
  show own_Goes p.tables e below P (T1.setTop (mkF m 32 #[.val (.int p0), .val (.int p1), .val (.double (FP.ddiv (FP.i2d p1) (4620693217682128896 : UInt64))), .second, .val (.double (FP.dadd (FP.dmul (4604480259023595110 : UInt64) (FP.ddiv (FP.i2d p1) (4620693217682128896 : UInt64))) (FP.dmul (4599075939470750515 : UInt64) (FP.i2d p0)))), .second, .val (.double (FP.dmul (4635329916471083008 : UInt64) (FP.dadd (FP.dmul (4604480259023595110 : UInt64) (FP.ddiv (FP.i2d p1) (4620693217682128896 : UInt64))) (FP.dmul (4599075939470750515 : UInt64) (FP.i2d p0))))), .second, .unset, .unset] [(.int p0), (.long (24 : Int64)), (.long ((7 : Int64) * ((p1).toInt64)))]))
  refine own_Goes.st ?_ (fun _ k => XS.i2l X1.here hx rfl (hb hby at_32) rfl k)
  show own_Goes p.tables e below P (T1.setTop (mkF m 33 #[.val (.int p0), .val (.int p1), .val (.double (FP.ddiv (FP.i2d p1) (4620693217682128896 : UInt64))), .second, .val (.double (FP.dadd (FP.dmul (4604480259023595110 : UInt64) (FP.ddiv (FP.i2d p1) (4620693217682128896 : UInt64))) (FP.dmul (4599075939470750515 : UInt64) (FP.i2d p0)))), .second, .val (.double (FP.dmul (4635329916471083008 : UInt64) (FP.dadd (FP.dmul (4604480259023595110 : UInt64) (FP.ddiv (FP.i2d p1) (4620693217682128896 : UInt64))) (FP.dmul (4599075939470750515 : UInt64) (FP.i2d p0))))), .second, .unset, .unset] [(.long ((p0).toInt64)), (.long (24 : Int64)), (.long ((7 : Int64) * ((p1).toInt64)))]))
  refine own_Goes.st ?_ (fun _ k => XS.lmul X1.here hx rfl (hb hby at_33) rfl k)
  show own_Goes p.tables e below P (T1.setTop (mkF m 34 #[.val (.int p0), .val (.int p1), .val (.double (FP.ddiv (FP.i2d p1) (4620693217682128896 : UInt64))), .second, .val (.double (FP.dadd (FP.dmul (4604480259023595110 : UInt64) (FP.ddiv (FP.i2d p1) (4620693217682128896 : UInt64))) (FP.dmul (4599075939470750515 : UInt64) (FP.i2d p0)))), .second, .val (.double (FP.dmul (4635329916471083008 : UInt64) (FP.dadd (FP.dmul (4604480259023595110 : UInt64) (FP.ddiv (FP.i2d p1) (4620693217682128896 : UInt64))) (FP.dmul (4599075939470750515 : UInt64) (FP.i2d p0))))), .second, .unset, .unset] [(.long ((24 : Int64) * ((p0).toInt64))), (.long ((7 : Int64) * ((p1).toInt64)))]))
  refine own_Goes.st ?_ (fun _ k => XS.ladd X1.here hx rfl (hb hby at_34) rfl k)
  show own_Goes p.tables e below P (T1.setTop (mkF m 35 #[.val (.int p0), .val (.int p1), .val (.double (FP.ddiv (FP.i2d p1) (4620693217682128896 : UInt64))), .second, .val (.double (FP.dadd (FP.dmul (4604480259023595110 : UInt64) (FP.ddiv (FP.i2d p1) (4620693217682128896 : UInt64))) (FP.dmul (4599075939470750515 : UInt64) (FP.i2d p0)))), .second, .val (.double (FP.dmul (4635329916471083008 : UInt64) (FP.dadd (FP.dmul (4604480259023595110 : UInt64) (FP.ddiv (FP.i2d p1) (4620693217682128896 : UInt64))) (FP.dmul (4599075939470750515 : UInt64) (FP.i2d p0))))), .second, .unset, .unset] [(.long (((7 : Int64) * ((p1).toInt64)) + ((24 : Int64) * ((p0).toInt64))))]))
  refine own_Goes.st ?_ (fun _ k => XS.lstore X1.here hx rfl (hb hby at_35) rfl (l' := #[.val (.int p0), .val (.int p1), .val (.double (FP.ddiv (FP.i2d p1) (4620693217682128896 : UInt64))), .second, .val (.double (FP.dadd (FP.dmul (4604480259023595110 : UInt64) (FP.ddiv (FP.i2d p1) (4620693217682128896 : UInt64))) (FP.dmul (4599075939470750515 : UInt64) (FP.i2d p0)))), .second, .val (.double (FP.dmul (4635329916471083008 : UInt64) (FP.dadd (FP.dmul (4604480259023595110 : UInt64) (FP.ddiv (FP.i2d p1) (4620693217682128896 : UInt64))) (FP.dmul (4599075939470750515 : UInt64) (FP.i2d p0))))), .second, .val (.long (((7 : Int64) * ((p1).toInt64)) + ((24 : Int64) * ((p0).toInt64)))), .second]) rfl k)
  show own_Goes p.tables e below P (T1.setTop (mkF m 37 #[.val (.int p0), .val (.int p1), .val (.double (FP.ddiv (FP.i2d p1) (4620693217682128896 : UInt64))), .second, .val (.double (FP.dadd (FP.dmul (4604480259023595110 : UInt64) (FP.ddiv (FP.i2d p1) (4620693217682128896 : UInt64))) (FP.dmul (4599075939470750515 : UInt64) (FP.i2d p0)))), .second, .val (.double (FP.dmul (4635329916471083008 : UInt64) (FP.dadd (FP.dmul (4604480259023595110 : UInt64) (FP.ddiv (FP.i2d p1) (4620693217682128896 : UInt64))) (FP.dmul (4599075939470750515 : UInt64) (FP.i2d p0))))), .second, .val (.long (((7 : Int64) * ((p1).toInt64)) + ((24 : Int64) * ((p0).toInt64)))), .second] []))
  refine own_Goes.st ?_ (fun _ k => XS.lload X1.here hx rfl (hb hby at_37) rfl k)
  show own_Goes p.tables e below P (T1.setTop (mkF m 39 #[.val (.int p0), .val (.int p1), .val (.double (FP.ddiv (FP.i2d p1) (4620693217682128896 : UInt64))), .second, .val (.double (FP.dadd (FP.dmul (4604480259023595110 : UInt64) (FP.ddiv (FP.i2d p1) (4620693217682128896 : UInt64))) (FP.dmul (4599075939470750515 : UInt64) (FP.i2d p0)))), .second, .val (.double (FP.dmul (4635329916471083008 : UInt64) (FP.dadd (FP.dmul (4604480259023595110 : UInt64) (FP.ddiv (FP.i2d p1) (4620693217682128896 : UInt64))) (FP.dmul (4599075939470750515 : UInt64) (FP.i2d p0))))), .second, .val (.long (((7 : Int64) * ((p1).toInt64)) + ((24 : Int64) * ((p0).toInt64)))), .second] [(.long (((7 : Int64) * ((p1).toInt64)) + ((24 : Int64) * ((p0).toInt64))))]))
  refine own_Goes.st ?_ (fun _ k => XS.lconst X1.here hx rfl (hb hby at_39) k)
  show own_Goes p.tables e below P (T1.setTop (mkF m 40 #[.val (.int p0), .val (.int p1), .val (.double (FP.ddiv (FP.i2d p1) (4620693217682128896 : UInt64))), .second, .val (.double (FP.dadd (FP.dmul (4604480259023595110 : UInt64) (FP.ddiv (FP.i2d p1) (4620693217682128896 : UInt64))) (FP.dmul (4599075939470750515 : UInt64) (FP.i2d p0)))), .second, .val (.double (FP.dmul (4635329916471083008 : UInt64) (FP.dadd (FP.dmul (4604480259023595110 : UInt64) (FP.ddiv (FP.i2d p1) (4620693217682128896 : UInt64))) (FP.dmul (4599075939470750515 : UInt64) (FP.i2d p0))))), .second, .val (.long (((7 : Int64) * ((p1).toInt64)) + ((24 : Int64) * ((p0).toInt64)))), .second] [(.long (1 : Int64)), (.long (((7 : Int64) * ((p1).toInt64)) + ((24 : Int64) * ((p0).toInt64))))]))
  refine own_Goes.st ?_ (fun _ k => XS.lsub X1.here hx rfl (hb hby at_40) rfl k)
  show own_Goes p.tables e below P (T1.setTop (mkF m 41 #[.val (.int p0), .val (.int p1), .val (.double (FP.ddiv (FP.i2d p1) (4620693217682128896 : UInt64))), .second, .val (.double (FP.dadd (FP.dmul (4604480259023595110 : UInt64) (FP.ddiv (FP.i2d p1) (4620693217682128896 : UInt64))) (FP.dmul (4599075939470750515 : UInt64) (FP.i2d p0)))), .second, .val (.double (FP.dmul (4635329916471083008 : UInt64) (FP.dadd (FP.dmul (4604480259023595110 : UInt64) (FP.ddiv (FP.i2d p1) (4620693217682128896 : UInt64))) (FP.dmul (4599075939470750515 : UInt64) (FP.i2d p0))))), .second, .val (.long (((7 : Int64) * ((p1).toInt64)) + ((24 : Int64) * ((p0).toInt64)))), .second] [(.long ((((7 : Int64) * ((p1).toInt64)) + ((24 : Int64) * ((p0).toInt64))) - (1 : Int64)))]))
  refine own_Goes.st ?_ (fun _ k => XS.l2dS X1.here hx rfl (hb hby at_41) rfl rfl k)
  show own_Goes p.tables e below P (T1.setTop (mkF m 42 #[.val (.int p0), .val (.int p1), .val (.double (FP.ddiv (FP.i2d p1) (4620693217682128896 : UInt64))), .second, .val (.double (FP.dadd (FP.dmul (4604480259023595110 : UInt64) (FP.ddiv (FP.i2d p1) (4620693217682128896 : UInt64))) (FP.dmul (4599075939470750515 : UInt64) (FP.i2d p0)))), .second, .val (.double (FP.dmul (4635329916471083008 : UInt64) (FP.dadd (FP.dmul (4604480259023595110 : UInt64) (FP.ddiv (FP.i2d p1) (4620693217682128896 : UInt64))) (FP.dmul (4599075939470750515 : UInt64) (FP.i2d p0))))), .second, .val (.long (((7 : Int64) * ((p1).toInt64)) + ((24 : Int64) * ((p0).toInt64)))), .second] [(.double (FP.l2d ((((7 : Int64) * ((p1).toInt64)) + ((24 : Int64) * ((p0).toInt64))) - (1 : Int64))))]))
  refine own_Goes.st ?_ (fun _ k => XS.dload X1.here hx rfl (hb hby at_42) rfl k)
  show own_Goes p.tables e below P (T1.setTop (mkF m 44 #[.val (.int p0), .val (.int p1), .val (.double (FP.ddiv (FP.i2d p1) (4620693217682128896 : UInt64))), .second, .val (.double (FP.dadd (FP.dmul (4604480259023595110 : UInt64) (FP.ddiv (FP.i2d p1) (4620693217682128896 : UInt64))) (FP.dmul (4599075939470750515 : UInt64) (FP.i2d p0)))), .second, .val (.double (FP.dmul (4635329916471083008 : UInt64) (FP.dadd (FP.dmul (4604480259023595110 : UInt64) (FP.ddiv (FP.i2d p1) (4620693217682128896 : UInt64))) (FP.dmul (4599075939470750515 : UInt64) (FP.i2d p0))))), .second, .val (.long (((7 : Int64) * ((p1).toInt64)) + ((24 : Int64) * ((p0).toInt64)))), .second] [(.double (FP.dmul (4635329916471083008 : UInt64) (FP.dadd (FP.dmul (4604480259023595110 : UInt64) (FP.ddiv (FP.i2d p1) (4620693217682128896 : UInt64))) (FP.dmul (4599075939470750515 : UInt64) (FP.i2d p0))))), (.double (FP.l2d ((((7 : Int64) * ((p1).toInt64)) + ((24 : Int64) * ((p0).toInt64))) - (1 : Int64))))]))
  refine own_Goes.st ?_ (fun _ k => XS.dcmpS X1.here hx rfl (hb hby at_44) rfl (v := (-1 : Int32)) (by rw [lq1]; rfl) k)
  show own_Goes p.tables e below P (T1.setTop (mkF m 45 #[.val (.int p0), .val (.int p1), .val (.double (FP.ddiv (FP.i2d p1) (4620693217682128896 : UInt64))), .second, .val (.double (FP.dadd (FP.dmul (4604480259023595110 : UInt64) (FP.ddiv (FP.i2d p1) (4620693217682128896 : UInt64))) (FP.dmul (4599075939470750515 : UInt64) (FP.i2d p0)))), .second, .val (.double (FP.dmul (4635329916471083008 : UInt64) (FP.dadd (FP.dmul (4604480259023595110 : UInt64) (FP.ddiv (FP.i2d p1) (4620693217682128896 : UInt64))) (FP.dmul (4599075939470750515 : UInt64) (FP.i2d p0))))), .second, .val (.long (((7 : Int64) * ((p1).toInt64)) + ((24 : Int64) * ((p0).toInt64)))), .second] [(.int (-1 : Int32))]))
  refine own_Goes.st ?_ (fun _ k => XS.ifNo X1.here hx rfl (hb hby at_45) rfl ((if0 _ _).trans (tlt (by decide : (-1 : Int32) < (0 : Int32))).2.1) k)
  show own_Goes p.tables e below P (T1.setTop (mkF m 48 #[.val (.int p0), .val (.int p1), .val (.double (FP.ddiv (FP.i2d p1) (4620693217682128896 : UInt64))), .second, .val (.double (FP.dadd (FP.dmul (4604480259023595110 : UInt64) (FP.ddiv (FP.i2d p1) (4620693217682128896 : UInt64))) (FP.dmul (4599075939470750515 : UInt64) (FP.i2d p0)))), .second, .val (.double (FP.dmul (4635329916471083008 : UInt64) (FP.dadd (FP.dmul (4604480259023595110 : UInt64) (FP.ddiv (FP.i2d p1) (4620693217682128896 : UInt64))) (FP.dmul (4599075939470750515 : UInt64) (FP.i2d p0))))), .second, .val (.long (((7 : Int64) * ((p1).toInt64)) + ((24 : Int64) * ((p0).toInt64)))), .second] []))
  refine own_Goes.st ?_ (fun _ k => XS.dload X1.here hx rfl (hb hby at_48) rfl k)
  show own_Goes p.tables e below P (T1.setTop (mkF m 50 #[.val (.int p0), .val (.int p1), .val (.double (FP.ddiv (FP.i2d p1) (4620693217682128896 : UInt64))), .second, .val (.double (FP.dadd (FP.dmul (4604480259023595110 : UInt64) (FP.ddiv (FP.i2d p1) (4620693217682128896 : UInt64))) (FP.dmul (4599075939470750515 : UInt64) (FP.i2d p0)))), .second, .val (.double (FP.dmul (4635329916471083008 : UInt64) (FP.dadd (FP.dmul (4604480259023595110 : UInt64) (FP.ddiv (FP.i2d p1) (4620693217682128896 : UInt64))) (FP.dmul (4599075939470750515 : UInt64) (FP.i2d p0))))), .second, .val (.long (((7 : Int64) * ((p1).toInt64)) + ((24 : Int64) * ((p0).toInt64)))), .second] [(.double (FP.dmul (4635329916471083008 : UInt64) (FP.dadd (FP.dmul (4604480259023595110 : UInt64) (FP.ddiv (FP.i2d p1) (4620693217682128896 : UInt64))) (FP.dmul (4599075939470750515 : UInt64) (FP.i2d p0)))))]))
  refine own_Goes.st ?_ (fun _ k => XS.lload X1.here hx rfl (hb hby at_50) rfl k)
  show own_Goes p.tables e below P (T1.setTop (mkF m 52 #[.val (.int p0), .val (.int p1), .val (.double (FP.ddiv (FP.i2d p1) (4620693217682128896 : UInt64))), .second, .val (.double (FP.dadd (FP.dmul (4604480259023595110 : UInt64) (FP.ddiv (FP.i2d p1) (4620693217682128896 : UInt64))) (FP.dmul (4599075939470750515 : UInt64) (FP.i2d p0)))), .second, .val (.double (FP.dmul (4635329916471083008 : UInt64) (FP.dadd (FP.dmul (4604480259023595110 : UInt64) (FP.ddiv (FP.i2d p1) (4620693217682128896 : UInt64))) (FP.dmul (4599075939470750515 : UInt64) (FP.i2d p0))))), .second, .val (.long (((7 : Int64) * ((p1).toInt64)) + ((24 : Int64) * ((p0).toInt64)))), .second] [(.long (((7 : Int64) * ((p1).toInt64)) + ((24 : Int64) * ((p0).toInt64)))), (.double (FP.dmul (4635329916471083008 : UInt64) (FP.dadd (FP.dmul (4604480259023595110 : UInt64) (FP.ddiv (FP.i2d p1) (4620693217682128896 : UInt64))) (FP.dmul (4599075939470750515 : UInt64) (FP.i2d p0)))))]))
  refine own_Goes.st ?_ (fun _ k => XS.lconst X1.here hx rfl (hb hby at_52) k)
  show own_Goes p.tables e below P (T1.setTop (mkF m 53 #[.val (.int p0), .val (.int p1), .val (.double (FP.ddiv (FP.i2d p1) (4620693217682128896 : UInt64))), .second, .val (.double (FP.dadd (FP.dmul (4604480259023595110 : UInt64) (FP.ddiv (FP.i2d p1) (4620693217682128896 : UInt64))) (FP.dmul (4599075939470750515 : UInt64) (FP.i2d p0)))), .second, .val (.double (FP.dmul (4635329916471083008 : UInt64) (FP.dadd (FP.dmul (4604480259023595110 : UInt64) (FP.ddiv (FP.i2d p1) (4620693217682128896 : UInt64))) (FP.dmul (4599075939470750515 : UInt64) (FP.i2d p0))))), .second, .val (.long (((7 : Int64) * ((p1).toInt64)) + ((24 : Int64) * ((p0).toInt64)))), .second] [(.long (1 : Int64)), (.long (((7 : Int64) * ((p1).toInt64)) + ((24 : Int64) * ((p0).toInt64)))), (.double (FP.dmul (4635329916471083008 : UInt64) (FP.dadd (FP.dmul (4604480259023595110 : UInt64) (FP.ddiv (FP.i2d p1) (4620693217682128896 : UInt64))) (FP.dmul (4599075939470750515 : UInt64) (FP.i2d p0)))))]))
  refine own_Goes.st ?_ (fun _ k => XS.ladd X1.here hx rfl (hb hby at_53) rfl k)
  show own_Goes p.tables e below P (T1.setTop (mkF m 54 #[.val (.int p0), .val (.int p1), .val (.double (FP.ddiv (FP.i2d p1) (4620693217682128896 : UInt64))), .second, .val (.double (FP.dadd (FP.dmul (4604480259023595110 : UInt64) (FP.ddiv (FP.i2d p1) (4620693217682128896 : UInt64))) (FP.dmul (4599075939470750515 : UInt64) (FP.i2d p0)))), .second, .val (.double (FP.dmul (4635329916471083008 : UInt64) (FP.dadd (FP.dmul (4604480259023595110 : UInt64) (FP.ddiv (FP.i2d p1) (4620693217682128896 : UInt64))) (FP.dmul (4599075939470750515 : UInt64) (FP.i2d p0))))), .second, .val (.long (((7 : Int64) * ((p1).toInt64)) + ((24 : Int64) * ((p0).toInt64)))), .second] [(.long ((((7 : Int64) * ((p1).toInt64)) + ((24 : Int64) * ((p0).toInt64))) + (1 : Int64))), (.double (FP.dmul (4635329916471083008 : UInt64) (FP.dadd (FP.dmul (4604480259023595110 : UInt64) (FP.ddiv (FP.i2d p1) (4620693217682128896 : UInt64))) (FP.dmul (4599075939470750515 : UInt64) (FP.i2d p0)))))]))
  refine own_Goes.st ?_ (fun _ k => XS.l2dS X1.here hx rfl (hb hby at_54) rfl rfl k)
  show own_Goes p.tables e below P (T1.setTop (mkF m 55 #[.val (.int p0), .val (.int p1), .val (.double (FP.ddiv (FP.i2d p1) (4620693217682128896 : UInt64))), .second, .val (.double (FP.dadd (FP.dmul (4604480259023595110 : UInt64) (FP.ddiv (FP.i2d p1) (4620693217682128896 : UInt64))) (FP.dmul (4599075939470750515 : UInt64) (FP.i2d p0)))), .second, .val (.double (FP.dmul (4635329916471083008 : UInt64) (FP.dadd (FP.dmul (4604480259023595110 : UInt64) (FP.ddiv (FP.i2d p1) (4620693217682128896 : UInt64))) (FP.dmul (4599075939470750515 : UInt64) (FP.i2d p0))))), .second, .val (.long (((7 : Int64) * ((p1).toInt64)) + ((24 : Int64) * ((p0).toInt64)))), .second] [(.double (FP.l2d ((((7 : Int64) * ((p1).toInt64)) + ((24 : Int64) * ((p0).toInt64))) + (1 : Int64)))), (.double (FP.dmul (4635329916471083008 : UInt64) (FP.dadd (FP.dmul (4604480259023595110 : UInt64) (FP.ddiv (FP.i2d p1) (4620693217682128896 : UInt64))) (FP.dmul (4599075939470750515 : UInt64) (FP.i2d p0)))))]))
  refine own_Goes.st ?_ (fun _ k => XS.dcmpS X1.here hx rfl (hb hby at_55) rfl (v := (-1 : Int32)) (by rw [lq2]; rfl) k)
  show own_Goes p.tables e below P (T1.setTop (mkF m 56 #[.val (.int p0), .val (.int p1), .val (.double (FP.ddiv (FP.i2d p1) (4620693217682128896 : UInt64))), .second, .val (.double (FP.dadd (FP.dmul (4604480259023595110 : UInt64) (FP.ddiv (FP.i2d p1) (4620693217682128896 : UInt64))) (FP.dmul (4599075939470750515 : UInt64) (FP.i2d p0)))), .second, .val (.double (FP.dmul (4635329916471083008 : UInt64) (FP.dadd (FP.dmul (4604480259023595110 : UInt64) (FP.ddiv (FP.i2d p1) (4620693217682128896 : UInt64))) (FP.dmul (4599075939470750515 : UInt64) (FP.i2d p0))))), .second, .val (.long (((7 : Int64) * ((p1).toInt64)) + ((24 : Int64) * ((p0).toInt64)))), .second] [(.int (-1 : Int32))]))
  refine own_Goes.st ?_ (fun _ k => XS.ifNo X1.here hx rfl (hb hby at_56) rfl ((if0 _ _).trans (tlt (by decide : (-1 : Int32) < (0 : Int32))).2.1) k)
  show own_Goes p.tables e below P (T1.setTop (mkF m 59 #[.val (.int p0), .val (.int p1), .val (.double (FP.ddiv (FP.i2d p1) (4620693217682128896 : UInt64))), .second, .val (.double (FP.dadd (FP.dmul (4604480259023595110 : UInt64) (FP.ddiv (FP.i2d p1) (4620693217682128896 : UInt64))) (FP.dmul (4599075939470750515 : UInt64) (FP.i2d p0)))), .second, .val (.double (FP.dmul (4635329916471083008 : UInt64) (FP.dadd (FP.dmul (4604480259023595110 : UInt64) (FP.ddiv (FP.i2d p1) (4620693217682128896 : UInt64))) (FP.dmul (4599075939470750515 : UInt64) (FP.i2d p0))))), .second, .val (.long (((7 : Int64) * ((p1).toInt64)) + ((24 : Int64) * ((p0).toInt64)))), .second] []))
  refine own_Goes.st ?_ (fun _ k => XS.iconst X1.here hx rfl (hb hby at_59) k)
  show own_Goes p.tables e below P (T1.setTop (mkF m 60 #[.val (.int p0), .val (.int p1), .val (.double (FP.ddiv (FP.i2d p1) (4620693217682128896 : UInt64))), .second, .val (.double (FP.dadd (FP.dmul (4604480259023595110 : UInt64) (FP.ddiv (FP.i2d p1) (4620693217682128896 : UInt64))) (FP.dmul (4599075939470750515 : UInt64) (FP.i2d p0)))), .second, .val (.double (FP.dmul (4635329916471083008 : UInt64) (FP.dadd (FP.dmul (4604480259023595110 : UInt64) (FP.ddiv (FP.i2d p1) (4620693217682128896 : UInt64))) (FP.dmul (4599075939470750515 : UInt64) (FP.i2d p0))))), .second, .val (.long (((7 : Int64) * ((p1).toInt64)) + ((24 : Int64) * ((p0).toInt64)))), .second] [(.int (1 : Int32))]))
  refine own_Goes.st ?_ (fun _ k => XS.goto X1.here hx rfl (pc0 := 60) (pc' := 64) rfl (hb hby at_60) (by decide) (by decide) k)
  show own_Goes p.tables e below P (T1.setTop (mkF m 64 #[.val (.int p0), .val (.int p1), .val (.double (FP.ddiv (FP.i2d p1) (4620693217682128896 : UInt64))), .second, .val (.double (FP.dadd (FP.dmul (4604480259023595110 : UInt64) (FP.ddiv (FP.i2d p1) (4620693217682128896 : UInt64))) (FP.dmul (4599075939470750515 : UInt64) (FP.i2d p0)))), .second, .val (.double (FP.dmul (4635329916471083008 : UInt64) (FP.dadd (FP.dmul (4604480259023595110 : UInt64) (FP.ddiv (FP.i2d p1) (4620693217682128896 : UInt64))) (FP.dmul (4599075939470750515 : UInt64) (FP.i2d p0))))), .second, .val (.long (((7 : Int64) * ((p1).toInt64)) + ((24 : Int64) * ((p0).toInt64)))), .second] [(.int (1 : Int32))]))
  obtain ⟨fs, hr, hrun, hended, hW, hsame⟩ := X1.leave (v := some (.int (1 : Int32))) (fun h => by rw [Bd.returns] at h; cases h)
  exact own_Goes.fin _ _ (retOut X1 hx (t := .boolean) Bd.returns rfl (Or.inl ⟨rfl, Or.inr (Or.inl rfl), _, rfl⟩) (hb hby at_64) hr) (hPP _ _ ⟨hrun, hended, _, _, rfl, (by show Q_law n0 _ _; exact ⟨rfl, N1⟩), ⟨_, rfl⟩, hW, hsame.mono (by decide) (by decide)⟩)
set_option maxRecDepth 65536 in
set_option maxHeartbeats 40000000 in
theorem comes_1 {Post : Tables → Env → Array Value → State → Outcome → State → Prop} (hpost : ∀ tb e args s v u, (limb_1_1.after args s (.returned v) u = true ∧ limb_1_2.after args s (.returned v) u = true ∧ True) → FrameEnd s (.returned v) u (Jvm.fieldLocs frame_1_writes args s ++ Jvm.arrayLocs frame_1_arrays args s ++ Jvm.staticLocs frame_1_statics s) 0 0 → Post tb e args s (.returned v) u) :
    ArmFor flags0 classFile x code maxLocals ret World_1 tables_1 room_1 Calls_1 rest_1 Pre_1 Post := by
  intro l hfl _ _ p e ha hc hk s m args below hf hA hF happ hP
  obtain ⟨hcalls, hrest, hpre⟩ := hP
  obtain ⟨-, -, -, hnamed, -, -, -, hat⟩ := (Spec.applies_iff hf).mp happ
  obtain ⟨hg, hn⟩ := and_e (Cond.before_iff.mp (show (Jvm.Cond.and given_1 narrow_1).before args s = true from hpre))
  obtain ⟨hg0, hg1⟩ := and_e hg
  obtain ⟨hv0, hr0⟩ := and_e hg1
  obtain ⟨w0, w1, rfl⟩ : ∃ w0 w1 : Value, args = #[w0, w1] := by
    have hs : args.size = 2 := by simpa [Cond.value, given_1] using hg0
    obtain ⟨L⟩ := args
    match L, hs with
    | [w0, w1], _ => exact ⟨w0, w1, rfl⟩
  have hw := fun d (hd : d ∈ tables_1) => atoms_spec (ws := Jvm.Cond.code x code maxLocals ret :: tables_1) hat d (List.mem_cons_of_mem _ hd)
  have hfit : Fit s := fun {y c} hc i hi => by
    obtain ⟨ha, rfl⟩ := Array.getElem?_eq_some_iff.mp hc
    have q := List.all_eq_true.mp ((Array.all_eq_true_iff_forall_mem.mp hF) _ (Array.getElem_mem ha)) i (List.mem_range.mpr hi)
    simpa [Array.getElem?_eq_getElem hi] using q
  obtain ⟨i0, ei0⟩ := is_v hv0
  obtain rfl : w0 = (.int i0) := Option.some.inj ei0
  obtain ⟨i1, ei1⟩ := is_v hr0
  obtain rfl : w1 = (.int i1) := Option.some.inj ei1
  obtain ⟨n, o, h1, h2, h3, _, L, rfl, ⟨rfl, N⟩, hq⟩ := rm_law l s _ hw tables_1 i0 i1  s.heap s.heap.size (Nat.le_refl _)  p e ha hc hk s m _ below hf ((Spec.applies_iff_loose hf).mp happ).1 ⟨rfl, State.Warmed39.refl s, rfl⟩ trivial
  refine ⟨n, _, h1, h2, h3, hpost _ _ _ _ _ _ ⟨Cond.after_iff.mpr rfl, Cond.after_iff.mpr (eq_i res_at (Term.int_eval (1)) rfl), trivial⟩ ⟨hq.1, hq.2.1, (hq.2.2.sift fun y hy => Or.inr (N y hy)).mono (by decide) (by decide)⟩⟩
theorem main_1_1 : Claimed_1_1 := comes_1 fun _ _ _ _ _ _ h hF => ⟨h.1, hF⟩
theorem main_1_2 : Claimed_1_2 := comes_1 fun _ _ _ _ _ _ h hF => ⟨h.2.1, hF⟩
end Jvm.Pilot.@@N@@
namespace Jvm.Pilot.@@N@@
open Jvm Jvm.ClassFile Sem Op Lib Jvm.Free Jvm.Stand Jvm.Pilot.@@N@@.Jvm.D
/-! MADE BY PROGRAM (witnessworld.py) out of the Statement's table words and the real class files: 13 classes; the members and pool entries that the words name. The judged class is class 1, her method 1. -/
namespace start1
open Jvm.ClassFile
def u (s : String) : CpInfo := .utf8 (stringToUtf16 s)
/-- a pool by its gaps: so many unusable entries, then the entry; so many at the end -/
def gap : Nat → List CpInfo → List CpInfo
  | 0, r => r
  | n + 1, r => .unusable :: gap n r
def poolList (es : List (Nat × CpInfo)) (last : Nat) : List CpInfo := es.foldr (fun e r => gap e.1 (e.2 :: r)) (gap last [])
def pool (es : List (Nat × CpInfo)) (last : Nat) : Array CpInfo := ⟨poolList es last⟩
def fileOf (pool : Array CpInfo) (this : Nat) (attrs : Array Attribute := #[]) (ms : Array MethodInfo := #[]) (fl : Nat := 33) (sup : Nat := 0) (ifs : Array Nat := #[]) (fds : Array FieldInfo := #[]) : ClassFile where
  minorVersion := 0
  majorVersion := 65
  constantPool := pool
  accessFlags := fl
  thisClass := this
  superClass := sup
  interfaces := ifs
  fields := fds
  methods := ms
  attributes := attrs
def plain (name : String) (sup : Option ClassId) : Class where
  name := name
  kind := .ordinary
  loader := none
  accessFlags := 33
  super := sup
  interfaces := #[]
  cf := none
  fields := #[]
  methods := #[]
  instanceTypes := #[]
  staticTypes := #[]
  resolved := #[]
  callSites := []
  init := .initialized
  statics := none
  mirror := none

def pool0 : Array CpInfo := pool [(5, u "<init>"), (0, u "()V"), (1, .class_ 10), (1, u "java/lang/Object")] 113

def k0m0 : Method := { name := "<init>", desc := "()V", sig := { parameters := [], returnType := none }, accessFlags := 1, code := none }
/-- java/lang/Object -/
def k0 : Class := { plain "java/lang/Object" none with
  accessFlags := 33
  interfaces := #[]
  cf := some (fileOf pool0 8 #[] #[{ accessFlags := 1, nameIndex := 5, descriptorIndex := 6, attributes := #[] }] 33 0 #[] #[])
  fields := #[]
  methods := #[k0m0]
  instanceTypes := #[]
  staticTypes := #[]
  resolved := Array.replicate 124 none
  statics := none }

def pool1 : Array CpInfo := pool [(2, .class_ 4), (1, u "java/lang/Object"), (0, u "<init>"), (0, u "()V"), (0, .double 4620693217682128896), (1, .methodref 10 11), (0, .class_ 12), (0, .nameAndType 13 14), (0, u "com/example/shrike/shrike/model/SmartWeighting$Normalization"), (0, u "pivotedUnique"), (0, u "(ID)D"), (0, .double 4635329916471083008), (1, .long 7), (1, .long 24), (1, .class_ 22), (0, u "com/example/shrike/shrike/model/NormalizationPivotedUniquePinLaw"), (2, u "law"), (0, u "(II)Z")] 7

def k1m0 : Method := { name := "<init>", desc := "()V", sig := { parameters := [], returnType := none }, accessFlags := 1, code := none }
def k1c1 : Code := { maxStack := 6, maxLocals := 10, code := code, exceptionTable := #[], attributes := #[] }
def k1m1 : Method := { name := "law", desc := "(II)Z", sig := { parameters := [.int, .int], returnType := some .boolean }, accessFlags := 9, code := some k1c1 }
/-- com/example/shrike/shrike/model/NormalizationPivotedUniquePinLaw -/
def k1 : Class := { plain "com/example/shrike/shrike/model/NormalizationPivotedUniquePinLaw" (some 0) with
  accessFlags := 49
  interfaces := #[]
  cf := some (fileOf pool1 21 #[] #[{ accessFlags := 1, nameIndex := 5, descriptorIndex := 6, attributes := #[] }, { accessFlags := 9, nameIndex := 25, descriptorIndex := 26, attributes := #[] }] 49 2 #[] #[])
  fields := #[]
  methods := #[k1m0, k1m1]
  instanceTypes := #[]
  staticTypes := #[]
  resolved := Array.replicate 34 none
  statics := none }

def pool2 : Array CpInfo := pool [(1, .class_ 2), (0, u "java/lang/constant/Constable"), (0, .class_ 4), (0, u "java/lang/Object")] 6

/-- java/lang/constant/Constable -/
def k2 : Class := { plain "java/lang/constant/Constable" (some 0) with
  accessFlags := 1537
  interfaces := #[]
  cf := some (fileOf pool2 1 #[] #[] 1537 3 #[] #[])
  fields := #[]
  methods := #[]
  instanceTypes := #[]
  staticTypes := #[]
  resolved := Array.replicate 11 none
  statics := none }

def pool3 : Array CpInfo := pool [(1, .class_ 2), (0, u "java/lang/Comparable"), (0, .class_ 4), (0, u "java/lang/Object")] 7

/-- java/lang/Comparable -/
def k3 : Class := { plain "java/lang/Comparable" (some 0) with
  accessFlags := 1537
  interfaces := #[]
  cf := some (fileOf pool3 1 #[] #[] 1537 3 #[] #[])
  fields := #[]
  methods := #[]
  instanceTypes := #[]
  staticTypes := #[]
  resolved := Array.replicate 12 none
  statics := none }

def pool4 : Array CpInfo := pool [(1, .class_ 2), (0, u "java/io/Serializable"), (0, .class_ 4), (0, u "java/lang/Object")] 2

/-- java/io/Serializable -/
def k4 : Class := { plain "java/io/Serializable" (some 0) with
  accessFlags := 1537
  interfaces := #[]
  cf := some (fileOf pool4 1 #[] #[] 1537 3 #[] #[])
  fields := #[]
  methods := #[]
  instanceTypes := #[]
  staticTypes := #[]
  resolved := Array.replicate 7 none
  statics := none }

def pool5 : Array CpInfo := pool [(2, .class_ 4), (1, u "java/lang/Enum"), (0, u "name"), (0, u "Ljava/lang/String;"), (2, u "ordinal"), (0, u "I"), (1, .class_ 14), (1, u "java/lang/Object"), (4, u "hash"), (86, .class_ 108), (1, u "java/lang/Enum$EnumDesc"), (2, .class_ 112), (0, u "java/lang/constant/Constable"), (0, .class_ 114), (0, u "java/lang/Comparable"), (0, .class_ 116), (0, u "java/io/Serializable")] 87

/-- java/lang/Enum -/
def k5 : Class := { plain "java/lang/Enum" (some 0) with
  accessFlags := 1057
  interfaces := #[2, 3, 4]
  cf := some (fileOf pool5 2 #[.nestMembers #[106]] #[] 1057 12 #[111, 113, 115] #[{ accessFlags := 18, nameIndex := 5, descriptorIndex := 6, attributes := #[] }, { accessFlags := 18, nameIndex := 9, descriptorIndex := 10, attributes := #[] }, { accessFlags := 2, nameIndex := 19, descriptorIndex := 10, attributes := #[] }])
  fields := #[{ name := "name", type := (.object "java/lang/String"), accessFlags := 18, slot := 0, constantValue := 0 }, { name := "ordinal", type := .int, accessFlags := 18, slot := 1, constantValue := 0 }, { name := "hash", type := .int, accessFlags := 2, slot := 2, constantValue := 0 }]
  methods := #[]
  instanceTypes := #[(.object "java/lang/String"), .int, .int]
  staticTypes := #[]
  resolved := Array.replicate 204 none
  statics := none }

def pool6 : Array CpInfo := pool [(8, .class_ 10), (1, u "com/example/shrike/shrike/model/SmartWeighting$Letter"), (6, .class_ 18), (0, u "java/lang/Object"), (12, .class_ 32), (0, u "com/example/shrike/shrike/model/SmartWeighting")] 2

/-- com/example/shrike/shrike/model/SmartWeighting$Letter -/
def k6 : Class := { plain "com/example/shrike/shrike/model/SmartWeighting$Letter" (some 0) with
  accessFlags := 1537
  interfaces := #[]
  cf := some (fileOf pool6 8 #[.nestHost 31] #[] 1537 17 #[] #[])
  fields := #[]
  methods := #[]
  instanceTypes := #[]
  staticTypes := #[]
  resolved := Array.replicate 35 none
  statics := none }

def pool7 : Array CpInfo := pool [(1, .class_ 2), (0, u "com/example/shrike/shrike/model/SmartWeighting$Normalization"), (2, u "NONE"), (0, u "Lcom/example/shrike/shrike/model/SmartWeighting$Normalization;"), (2, u "COSINE"), (2, u "PIVOTED_UNIQUE"), (2, u "$VALUES"), (0, u "[Lcom/example/shrike/shrike/model/SmartWeighting$Normalization;"), (6, .class_ 25), (1, u "java/lang/Enum"), (8, u "letter"), (0, u "C"), (0, .double 4604480259023595110), (1, .double 4599075939470750515), (11, .class_ 51), (0, u "com/example/shrike/shrike/model/SmartWeighting$Letter"), (0, u "SLOPE"), (0, u "D"), (9, u "pivotedUnique"), (0, u "(ID)D"), (6, .class_ 72), (0, u "com/example/shrike/shrike/model/SmartWeighting")] 3

def k7c0 : Code := { maxStack := 6, maxLocals := 3, code := prog_75_method_5_code, exceptionTable := #[], attributes := #[] }
def k7m0 : Method := { name := "pivotedUnique", desc := "(ID)D", sig := { parameters := [.int, .double], returnType := some .double }, accessFlags := 9, code := some k7c0 }
/-- com/example/shrike/shrike/model/SmartWeighting$Normalization -/
def k7 : Class := { plain "com/example/shrike/shrike/model/SmartWeighting$Normalization" (some 5) with
  accessFlags := 16433
  interfaces := #[6]
  cf := some (fileOf pool7 1 #[.nestHost 71] #[{ accessFlags := 9, nameIndex := 63, descriptorIndex := 64, attributes := #[] }] 16433 23 #[50] #[{ accessFlags := 16409, nameIndex := 5, descriptorIndex := 6, attributes := #[] }, { accessFlags := 16409, nameIndex := 9, descriptorIndex := 6, attributes := #[] }, { accessFlags := 16409, nameIndex := 12, descriptorIndex := 6, attributes := #[] }, { accessFlags := 25, nameIndex := 52, descriptorIndex := 53, attributes := #[] }, { accessFlags := 18, nameIndex := 34, descriptorIndex := 35, attributes := #[] }, { accessFlags := 4122, nameIndex := 15, descriptorIndex := 16, attributes := #[] }])
  fields := #[{ name := "NONE", type := (.object "com/example/shrike/shrike/model/SmartWeighting$Normalization"), accessFlags := 16409, slot := 0, constantValue := 0 }, { name := "COSINE", type := (.object "com/example/shrike/shrike/model/SmartWeighting$Normalization"), accessFlags := 16409, slot := 1, constantValue := 0 }, { name := "PIVOTED_UNIQUE", type := (.object "com/example/shrike/shrike/model/SmartWeighting$Normalization"), accessFlags := 16409, slot := 2, constantValue := 0 }, { name := "SLOPE", type := .double, accessFlags := 25, slot := 3, constantValue := 0 }, { name := "letter", type := .char, accessFlags := 18, slot := 3, constantValue := 0 }, { name := "$VALUES", type := (.array (.object "com/example/shrike/shrike/model/SmartWeighting$Normalization")), accessFlags := 4122, slot := 4, constantValue := 0 }]
  methods := #[k7m0]
  instanceTypes := #[(.object "java/lang/String"), .int, .int, .char]
  staticTypes := #[(.object "com/example/shrike/shrike/model/SmartWeighting$Normalization"), (.object "com/example/shrike/shrike/model/SmartWeighting$Normalization"), (.object "com/example/shrike/shrike/model/SmartWeighting$Normalization"), .double, (.array (.object "com/example/shrike/shrike/model/SmartWeighting$Normalization"))]
  resolved := Array.replicate 76 none
  statics := none }

def pool8 : Array CpInfo := pool [(1, u "java/lang/Cloneable"), (0, .class_ 1), (0, u "java/lang/Object"), (0, .class_ 3)] 3

/-- java/lang/Cloneable -/
def k8 : Class := { plain "java/lang/Cloneable" (some 0) with
  accessFlags := 1537
  interfaces := #[]
  cf := some (fileOf pool8 2 #[] #[] 1537 4 #[] #[])
  fields := #[]
  methods := #[]
  instanceTypes := #[]
  staticTypes := #[]
  resolved := Array.replicate 8 none
  statics := none }

/-- the primitive byte -/
def k9 : Class := { plain "byte" none with kind := .primitive 'B', accessFlags := 0x411 }
/-- [B -/
def k10 : Class := { plain "[B" (some 0) with kind := .array 9 .byte, interfaces := #[8, 4], accessFlags := 1041 }

/-- the primitive int -/
def k11 : Class := { plain "int" none with kind := .primitive 'I', accessFlags := 0x411 }
/-- [I -/
def k12 : Class := { plain "[I" (some 0) with kind := .array 11 .int, interfaces := #[8, 4], accessFlags := 1041 }

def heap : Heap := #[]
def classes : Array Class := #[k0, k1, k2, k3, k4, k5, k6, k7, k8, k9, k10, k11, k12]
def interned : List (Array UInt16 × Addr) := []
def slotsUsed : Nat := 0
def theMethod : MethodId := ⟨1, 1⟩
def args0 : Array Value := #[.int 3, .int 5]
def aboutOver (below : List Frame) : State where
  vm := { classes := classes, interned := interned.toArray }
  heap := heap
  slotsUsed := slotsUsed
  threads := #[{ frames := .invoking theMethod args0 :: below }]
def below0 : List Frame := [.native { method := ⟨0, 0⟩, args := #[] }]
def about1 : State := aboutOver below0
def p0 : Program := .bare "" "" ""
def e0 : Env := launch0.env 0 0 0
theorem w_frames : about1.frames = Frame.invoking theMethod args0 :: below0 := rfl
set_option maxRecDepth 65536 in
theorem w_args : argsFit about1.vm theMethod args0 = true := by decide +kernel
set_option maxRecDepth 65536 in
theorem w_heap : heapFits about1 = true := by decide +kernel
set_option maxRecDepth 65536 in
theorem w_runnable : about1.curStatus? = some .runnable := by decide +kernel
set_option maxRecDepth 65536 in
theorem w_alone : about1.alone = true := by decide +kernel
set_option maxRecDepth 65536 in
theorem w_named : about1.methodNamed? x = some theMethod := by decide +kernel
set_option maxRecDepth 65536 in
theorem w_hears : about1.hears theMethod below0 = true := by decide +kernel
set_option maxRecDepth 65536 in
theorem w_ripe : about1.ripe theMethod args0 below0 = true := by decide +kernel
theorem w_running : about1.status = .running := rfl
set_option maxRecDepth 65536 in
theorem w_room : about1.hasRoom e0.platform room_1 = true :=
  launch0.hasRoom_least _ room_1 (by decide +kernel) (by decide +kernel) (by decide +kernel) (by decide +kernel) (by decide +kernel) (by decide +kernel)
theorem allAtoms_all (ts : List Jvm.Cond) (a : Array Jvm.Value) (st : Jvm.State) : (allAtoms ts).before a st = ts.all (fun c => c.before a st) := by
  induction ts with
  | nil => rfl
  | cons c t ih =>
    show (Jvm.Cond.and c (allAtoms t)).before a st = _
    rw [Jvm.Cond.before_and, ih, List.all_cons]
def words1 : List Jvm.Cond := Jvm.Cond.code x code maxLocals ret :: tables_1
/-- a 'code' word, met by the world's own term for the bytes: nothing is compared byte by byte -/
theorem code_word {y : MethodName} {bytes : ByteArray} {mx : Nat} {rt : Option FieldType} {a : Array Value} {s : State} {m : MethodId} {meth : Method} {c : Code} (h1 : s.methodNamed? y = some m) (h2 : s.vm.method? m = some meth) (h3 : meth.code = some c) (h4 : c.code = bytes)
    (h5 : (c.maxLocals == mx && c.exceptionTable.isEmpty && decide (c.maxStack ≤ mostOperands) && decide (meth.sig.returnType = rt) && !meth.locks && decide (parseMethodDescriptor y.desc = some meth.sig)) = true) : (Jvm.Cond.code y bytes mx rt).before a s = true := by
  simp only [Bool.and_eq_true, beq_iff_eq, Bool.not_eq_true', decide_eq_true_eq] at h5
  obtain ⟨⟨⟨⟨⟨g1, g2⟩, g3⟩, g4⟩, g5⟩, g6⟩ := h5
  simp [Cond.before, Cond.holds, Cond.value, h1, h2, h3, h4, g1, g2, g3, g4, g5, g6]
def isCode : Jvm.Cond → Bool
  | .code _ _ _ _ => true
  | _ => false
theorem all_split {L : List Jvm.Cond} {P : Jvm.Cond → Bool} (h1 : L.all (fun c => isCode c || P c) = true) (h2 : ∀ c ∈ L.filter isCode, P c = true) : L.all P = true := by
  refine List.all_eq_true.mpr fun c hc => ?_
  have h := List.all_eq_true.mp h1 c hc
  rcases Bool.eq_false_or_eq_true (isCode c) with hi | hi
  · exact h2 c (List.mem_filter.mpr ⟨hc, hi⟩)
  · simpa [hi] using h
set_option maxRecDepth 65536 in
theorem w_c0 : (Jvm.Cond.code x code maxLocals ret).before args0 about1 = true := code_word (m := ⟨1, 1⟩) (meth := k1m1) (c := k1c1) (by decide +kernel) rfl rfl rfl (by decide +kernel)
set_option maxRecDepth 65536 in
theorem w_c1 : (Jvm.Cond.code ({ cls := "com/example/shrike/shrike/model/SmartWeighting$Normalization", name := "pivotedUnique", desc := "(ID)D" } : Jvm.MethodName) prog_75_method_5_code (3 : Nat) (Option.some Jvm.ClassFile.FieldType.double)).before args0 about1 = true := code_word (m := ⟨7, 0⟩) (meth := k7m0) (c := k7c0) (by decide +kernel) rfl rfl rfl (by decide +kernel)
def codes1 : List Jvm.Cond := [Jvm.Cond.code x code maxLocals ret, Jvm.Cond.code ({ cls := "com/example/shrike/shrike/model/SmartWeighting$Normalization", name := "pivotedUnique", desc := "(ID)D" } : Jvm.MethodName) prog_75_method_5_code (3 : Nat) (Option.some Jvm.ClassFile.FieldType.double)]
set_option maxRecDepth 65536 in
theorem codes_eq : words1.filter isCode = codes1 := rfl
theorem w_codes : ∀ c ∈ words1.filter isCode, c.before args0 about1 = true := by
  rw [codes_eq]
  intro c hc
  simp only [codes1, List.mem_cons, List.not_mem_nil, or_false] at hc
  rcases hc with rfl | rfl
  · exact w_c0
  · exact w_c1
set_option maxRecDepth 65536 in
theorem w_t1 : words1.all (fun c => isCode c || c.before args0 about1) = true := by decide +kernel
theorem w_tables : (allAtoms (Jvm.Cond.code x code maxLocals ret :: tables_1)).before args0 about1 = true := by
  rw [allAtoms_all]
  show words1.all (fun c => c.before args0 about1) = true
  refine all_split ?_ w_codes
  rw [w_t1]
set_option maxRecDepth 65536 in
theorem w_case : (Jvm.Cond.and given_1 narrow_1).before args0 about1 = true := by decide +kernel
theorem w_applies : (headSpec (Jvm.Cond.code x code maxLocals ret :: tables_1) room_1).applies x e0.platform about1 = true :=
  (Spec.applies_iff w_frames).mpr ⟨w_running, w_runnable, w_alone, w_named, w_hears, w_ripe, w_room, w_tables⟩
theorem atStart : AtStart classFile x code maxLocals ret World_1 tables_1 room_1 Calls_1 rest_1 Pre_1 launch0 p0 e0 about1 theMethod args0 below0 :=
  ⟨lists_1, trivial, launch0.admits_env _ _ _, launch0.least_env, fairChoices_fair.cas, fairChoices_fair.clock, w_frames, w_args, w_heap, w_applies, trivial, trivial, w_case⟩
end start1
theorem witness_1 : WitnessClaimed_1 := ⟨start1.p0, start1.e0, start1.about1, start1.theMethod, start1.args0, start1.below0, start1.atStart⟩
end Jvm.Pilot.@@N@@
