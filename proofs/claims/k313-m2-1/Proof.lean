import JvmDerived
import JvmDerived.Pilot.@@N@@Statement
import JvmDerived.Pilot.@@N@@Code
set_option linter.unusedVariables false
set_option linter.unusedSimpArgs false
namespace Jvm.Pilot.@@N@@
open Jvm Jvm.ClassFile Sem Op Lib Jvm.Free Jvm.Stand Jvm.LawKit Jvm.RoadKit Bundle Jvm.Pilot.@@N@@.Jvm.D
/-! own layer 1: doubles as whole numbers of least units (2 to the -1074) -/
section OwnFp
open Jvm.FP Jvm.FP.Core Jvm.Free.Fl
/-- a power of two -/
def P2 (j : Nat) : Int := ((2 ^ j : Nat) : Int)
theorem P2_pos (j : Nat) : 0 < P2 j := Int.natCast_pos.mpr (Nat.two_pow_pos j)
theorem P2_add (i j : Nat) : P2 (i + j) = P2 i * P2 j := by unfold P2; rw [Nat.pow_add, Int.natCast_mul]
theorem P2_one64 : (one64 : Int) = P2 1074 := rfl
/-- the value of a double in least units -/
def Zv (a : UInt64) : Int := zval b64 (val64 a)
/-- some finite double has this value -/
def Rep (V : Int) : Prop := ∃ x : UInt64, DFin x ∧ Zv x = V
theorem own_qmax : b64.qmax = 971 := by decide
theorem own_signed_abs (c : Int) : signed (decide (c < 0)) c.natAbs = c := by
  unfold signed
  by_cases q : c < 0
  · simp [q]; omega
  · simp [q]; omega
theorem rep_core (s : Bool) {c j : Nat} (hc : c < 2 ^ 53) (hj : j ≤ 2045) : ∃ x : UInt64, DFin x ∧ Zv x = signed s (c * 2 ^ j) := by
  obtain ⟨c', q', h1, h2⟩ := round_exact (f := b64) good_b64 s (c := c) (q := (j : Int) - 1074) hc (by rw [qmin_b64]; omega) (by rw [own_qmax]; omega)
  refine ⟨of64 (round b64 (.fin s c ((j : Int) - 1074))), ⟨s, c', q', ?_⟩, ?_⟩
  · rw [val64_of64 (round_fits good_b64 _), h1]
  · unfold Zv
    rw [val64_of64 (round_fits good_b64 _), h1]
    show signed s (inUnits c' q' b64.qmin) = _
    rw [h2]
    unfold inUnits
    rw [show ((j : Int) - 1074 - b64.qmin).toNat = j by rw [qmin_b64]; omega]
theorem rep_mk (c : Int) (j : Nat) (hc : c.natAbs ≤ 2 ^ 53) (hj : j ≤ 2044) : Rep (c * P2 j) := by
  by_cases h : c.natAbs < 2 ^ 53
  · obtain ⟨x, h1, h2⟩ := rep_core (decide (c < 0)) h (j := j) (by omega)
    refine ⟨x, h1, h2.trans ?_⟩
    rw [signed_mul, own_signed_abs]; rfl
  · have h' : c.natAbs = 2 ^ 53 := by omega
    obtain ⟨x, h1, h2⟩ := rep_core (decide (c < 0)) (c := 2 ^ 52) (by decide) (j := j + 1) (by omega)
    refine ⟨x, h1, h2.trans ?_⟩
    have e : 2 ^ 52 * 2 ^ (j + 1) = c.natAbs * 2 ^ j := by
      rw [h', Nat.pow_add 2 j 1]
      generalize 2 ^ j = t
      omega
    rw [e, signed_mul, own_signed_abs]; rfl
theorem rep_of {V : Int} (c : Int) (j : Nat) (hc : c.natAbs ≤ 2 ^ 53) (hj : j ≤ 2044) (h : V = c * P2 j) : Rep V := h ▸ rep_mk c j hc hj
theorem rep_int (n : Int) (h : n.natAbs ≤ 2 ^ 53) : Rep (n * P2 1074) := rep_mk n 1074 h (by decide)
theorem rep_zero : Rep 0 := rep_of 0 0 (by decide) (by decide) (by simp)
theorem rep_self {x : UInt64} (h : DFin x) : Rep (Zv x) := ⟨x, h, rfl⟩
theorem rep_neg {V : Int} (h : Rep V) : Rep (-V) := by
  obtain ⟨x, hx, rfl⟩ := h
  obtain ⟨s, c, q, hv⟩ := hx
  refine ⟨Core.dneg x, ⟨!s, c, q, ?_⟩, ?_⟩
  · rw [Core.val64_dneg, hv]; rfl
  · unfold Zv; rw [Core.val64_dneg, zval_negate]
/-- between two finite values: finite -/
theorem fin_between {x : UInt64} (hn : val64 x ≠ .nan) {L H : Int} (hL : Rep L) (hH : Rep H) (h1 : L ≤ Zv x) (h2 : Zv x ≤ H) : DFin x := by
  cases hv : val64 x with
  | nan => exact absurd hv hn
  | fin s c q => exact ⟨s, c, q, hv⟩
  | inf s =>
    exfalso
    obtain ⟨y, hy, rfl⟩ := hL
    obtain ⟨z, hz, rfl⟩ := hH
    have a1 := hy.zval_lt
    have a2 := hz.zval_lt
    have e : Zv x = signed s (b64.tails * 2 ^ (b64.exps - 2)) := by unfold Zv; rw [hv]; rfl
    have b1 : signed (sgn (val64 y)) (zmag b64 (val64 y)) ≤ signed s (b64.tails * 2 ^ (b64.exps - 2)) := e ▸ h1
    have b2 : signed s (b64.tails * 2 ^ (b64.exps - 2)) ≤ signed (sgn (val64 z)) (zmag b64 (val64 z)) := e ▸ h2
    generalize b64.tails * 2 ^ (b64.exps - 2) = top at *
    generalize zmag b64 (val64 y) = my at *
    generalize zmag b64 (val64 z) = mz at *
    generalize sgn (val64 y) = sy at *
    generalize sgn (val64 z) = sz at *
    cases s <;> cases sy <;> cases sz <;> simp only [signed, if_true, Bool.false_eq_true, if_false] at b1 b2 <;> omega
theorem not_nan {x : UInt64} (h : Core.dIsNaN x = false) : val64 x ≠ .nan := (notNaN_iff x).mp h
theorem nn_of {x : UInt64} (h : DFin x) : NoNaN64 x := (fin64_core.mpr h).noNaN
/-! sums -/
theorem add_le {a b : UInt64} (ha : DFin a) (hb : DFin b) {V : Int} (hV : Rep V) (h : Zv a + Zv b ≤ V) : Zv (FP.dadd a b) ≤ V := by
  obtain ⟨x, hx, rfl⟩ := hV
  unfold Zv at h ⊢
  rw [val64_dadd]
  exact sum_le good_b64 ha hb (val64_fits a) (val64_fits b) (val64_fits x) hx.ne_nan h
theorem add_ge {a b : UInt64} (ha : DFin a) (hb : DFin b) {V : Int} (hV : Rep V) (h : V ≤ Zv a + Zv b) : V ≤ Zv (FP.dadd a b) := by
  obtain ⟨x, hx, rfl⟩ := hV
  unfold Zv at h ⊢
  rw [val64_dadd]
  exact sum_ge good_b64 ha hb (val64_fits a) (val64_fits b) (val64_fits x) hx.ne_nan h
theorem add_in {a b : UInt64} (ha : DFin a) (hb : DFin b) {L H : Int} (hL : Rep L) (hH : Rep H) (h1 : L ≤ Zv a + Zv b) (h2 : Zv a + Zv b ≤ H) : DFin (FP.dadd a b) ∧ L ≤ Zv (FP.dadd a b) ∧ Zv (FP.dadd a b) ≤ H :=
  ⟨fin_between (not_nan (Core.dadd_out ha.notNaN hb)) hL hH (add_ge ha hb hL h1) (add_le ha hb hH h2), add_ge ha hb hL h1, add_le ha hb hH h2⟩
theorem add_eq {a b : UInt64} (ha : DFin a) (hb : DFin b) {V : Int} (hV : Rep V) (h : Zv a + Zv b = V) : DFin (FP.dadd a b) ∧ Zv (FP.dadd a b) = V := by
  obtain ⟨h1, h2, h3⟩ := add_in ha hb hV hV (Int.le_of_eq h.symm) (Int.le_of_eq h)
  exact ⟨h1, Int.le_antisymm h3 h2⟩
/-! signs -/
theorem neg_eq {a : UInt64} (ha : DFin a) : DFin (FP.dneg a) ∧ Zv (FP.dneg a) = -Zv a := by
  obtain ⟨s, c, q, hv⟩ := ha
  constructor
  · exact ⟨!s, c, q, by rw [FP.val64_dneg, hv]; rfl⟩
  · unfold Zv; rw [FP.val64_dneg, zval_negate]
theorem cneg_eq {a : UInt64} (ha : DFin a) : DFin (Core.dneg a) ∧ Zv (Core.dneg a) = -Zv a := by
  obtain ⟨s, c, q, hv⟩ := ha
  constructor
  · exact ⟨!s, c, q, by rw [Core.val64_dneg, hv]; rfl⟩
  · unfold Zv; rw [Core.val64_dneg, zval_negate]
/-! differences -/
theorem sub_in {a b : UInt64} (ha : DFin a) (hb : DFin b) {L H : Int} (hL : Rep L) (hH : Rep H) (h1 : L ≤ Zv a - Zv b) (h2 : Zv a - Zv b ≤ H) : DFin (FP.dsub a b) ∧ L ≤ Zv (FP.dsub a b) ∧ Zv (FP.dsub a b) ≤ H := by
  obtain ⟨n1, n2⟩ := cneg_eq hb
  have e : FP.dsub a b = FP.dadd a (Core.dneg b) := Core.dsub_eq a b
  rw [e]
  exact add_in ha n1 hL hH (by rw [n2]; omega) (by rw [n2]; omega)
theorem sub_eq {a b : UInt64} (ha : DFin a) (hb : DFin b) {V : Int} (hV : Rep V) (h : Zv a - Zv b = V) : DFin (FP.dsub a b) ∧ Zv (FP.dsub a b) = V := by
  obtain ⟨h1, h2, h3⟩ := sub_in ha hb hV hV (Int.le_of_eq h.symm) (Int.le_of_eq h)
  exact ⟨h1, Int.le_antisymm h3 h2⟩
/-! products -/
theorem own_q2 : (b64.qmin - 2 * b64.qmin).toNat = 1074 := by rw [qmin_b64]; decide
theorem mul_le {a b : UInt64} (ha : DFin a) (hb : DFin b) {V : Int} (hV : Rep V) (h : Zv a * Zv b ≤ V * P2 1074) : Zv (FP.dmul a b) ≤ V := by
  obtain ⟨x, hx, rfl⟩ := hV
  obtain ⟨s, c, q, hva⟩ := ha
  obtain ⟨t, d, r, hvb⟩ := hb
  have fa := val64_fits a
  have fb := val64_fits b
  unfold Zv at h ⊢
  rw [hva] at fa h
  rw [hvb] at fb h
  obtain ⟨p1, p2, p3⟩ := product_units fa fb
  rw [val64_dmul, hva, hvb, p1]
  refine zval_round_le good_b64 (val64_fits x) hx.ne_nan (e0 := 2 * b64.qmin) (by rw [qmin_b64]; decide) p2 ?_
  rw [p3, signed_xor, own_q2]
  exact h
theorem mul_ge {a b : UInt64} (ha : DFin a) (hb : DFin b) {V : Int} (hV : Rep V) (h : V * P2 1074 ≤ Zv a * Zv b) : V ≤ Zv (FP.dmul a b) := by
  obtain ⟨x, hx, rfl⟩ := hV
  obtain ⟨s, c, q, hva⟩ := ha
  obtain ⟨t, d, r, hvb⟩ := hb
  have fa := val64_fits a
  have fb := val64_fits b
  unfold Zv at h ⊢
  rw [hva] at fa h
  rw [hvb] at fb h
  obtain ⟨p1, p2, p3⟩ := product_units fa fb
  rw [val64_dmul, hva, hvb, p1]
  refine zval_round_ge good_b64 (val64_fits x) hx.ne_nan (e0 := 2 * b64.qmin) (by rw [qmin_b64]; decide) p2 ?_
  rw [p3, signed_xor, own_q2]
  exact h
theorem mul_in {a b : UInt64} (ha : DFin a) (hb : DFin b) {L H : Int} (hL : Rep L) (hH : Rep H) (h1 : L * P2 1074 ≤ Zv a * Zv b) (h2 : Zv a * Zv b ≤ H * P2 1074) : DFin (FP.dmul a b) ∧ L ≤ Zv (FP.dmul a b) ∧ Zv (FP.dmul a b) ≤ H :=
  ⟨fin_between (not_nan (Core.dmul_out ha hb)) hL hH (mul_ge ha hb hL h1) (mul_le ha hb hH h2), mul_ge ha hb hL h1, mul_le ha hb hH h2⟩
theorem mul_eq {a b : UInt64} (ha : DFin a) (hb : DFin b) {V : Int} (hV : Rep V) (h : Zv a * Zv b = V * P2 1074) : DFin (FP.dmul a b) ∧ Zv (FP.dmul a b) = V := by
  obtain ⟨h1, h2, h3⟩ := mul_in ha hb hV hV (Int.le_of_eq h.symm) (Int.le_of_eq h)
  exact ⟨h1, Int.le_antisymm h3 h2⟩
/-! quotients by a positive number -/
theorem own_sgn_le {s t : Bool} {A V B r : Nat} (hB : 0 < B) (hle : A ≤ V * B → r ≤ V) (hge : V * B ≤ A → V ≤ r) (h : signed s A ≤ signed t V * (B : Int)) : signed s r ≤ signed t V := by
  rw [← signed_mul] at h
  have hz : V * B = 0 → V = 0 := fun q => by rcases Nat.mul_eq_zero.mp q with q | q <;> omega
  generalize V * B = vb at *
  cases s <;> cases t <;> simp only [signed, if_true, Bool.false_eq_true, if_false] at h ⊢
  · have := hle (by omega); omega
  · have := hle (by omega); have := hz (by omega); omega
  · omega
  · have := hge (by omega); omega
theorem own_sgn_ge {s t : Bool} {A V B r : Nat} (hB : 0 < B) (hle : A ≤ V * B → r ≤ V) (hge : V * B ≤ A → V ≤ r) (h : signed t V * (B : Int) ≤ signed s A) : signed t V ≤ signed s r := by
  rw [← signed_mul] at h
  have hz : V * B = 0 → V = 0 := fun q => by rcases Nat.mul_eq_zero.mp q with q | q <;> omega
  generalize V * B = vb at *
  cases s <;> cases t <;> simp only [signed, if_true, Bool.false_eq_true, if_false] at h ⊢
  · have := hge (by omega); omega
  · omega
  · have := hle (by omega); have := hz (by omega); omega
  · have := hle (by omega); omega
theorem div_core {a b : UInt64} (ha : DFin a) (hb : DFin b) (hp : 0 < Zv b) (x : UInt64) (hx : DFin x) :
    ∃ (s : Bool) (A B : Nat), (B : Int) = Zv b ∧ signed s A = Zv a * P2 1074 ∧ 0 < B ∧ ∃ r, Zv (FP.ddiv a b) = signed s r ∧ (A ≤ zmag b64 (val64 x) * B → r ≤ zmag b64 (val64 x)) ∧ (zmag b64 (val64 x) * B ≤ A → zmag b64 (val64 x) ≤ r) := by
  obtain ⟨s, c, q, hva⟩ := ha
  obtain ⟨t, d, r, hvb⟩ := hb
  have fa := val64_fits a
  have fb := val64_fits b
  rw [hva] at fa
  rw [hvb] at fb
  have f1 := fa.2.1
  have f2 := fb.2.1
  have zb : Zv b = signed t (inUnits d r b64.qmin) := by unfold Zv; rw [hvb]; rfl
  have hd : 0 < d := by
    rcases Nat.eq_zero_or_pos d with q0 | q0
    · rw [zb, q0] at hp
      have : inUnits 0 r b64.qmin = 0 := Nat.zero_mul _
      rw [this, signed_zero] at hp; omega
    · exact q0
  have ht : t = false := by
    cases t with
    | false => rfl
    | true => rw [zb] at hp; simp only [signed, if_true] at hp; omega
  subst ht
  have hB : 0 < inUnits d r b64.qmin := Nat.mul_pos hd (Nat.two_pow_pos _)
  have e1 : inUnits c (q - r) (2 * b64.qmin - r) = inUnits c q b64.qmin * 2 ^ 1074 := by
    unfold inUnits
    rw [Nat.mul_assoc, ← Nat.pow_add]
    rw [qmin_b64] at *
    congr 2; omega
  have e2 : 2 ^ (b64.qmin - (2 * b64.qmin - r)).toNat * d = inUnits d r b64.qmin := by
    unfold inUnits
    rw [Nat.mul_comm]; congr 2; omega
  have hv : val64 (FP.ddiv a b) = roundRatio b64 s c d (q - r) := by
    rw [val64_ddiv, hva, hvb]
    show (if d = 0 then _ else roundRatio b64 (s != false) c d (q - r)) = _
    rw [if_neg (by omega)]
    cases s <;> rfl
  refine ⟨s, inUnits c q b64.qmin * 2 ^ 1074, inUnits d r b64.qmin, ?_, ?_, hB, zmag b64 (roundRatio b64 s c d (q - r)), ?_, ?_, ?_⟩
  · rw [zb]; simp only [signed, Bool.false_eq_true, if_false]
  · unfold Zv; rw [signed_mul, hva]; rfl
  · unfold Zv; rw [hv]; show signed (sgn _) _ = _; rw [sgn_roundRatio]
  · intro h
    refine zmag_roundRatio_le good_b64 hd (val64_fits x) hx.ne_nan (e0 := 2 * b64.qmin - r) (by have := qmin_b64; omega) (by have := qmin_b64; omega) ?_
    rw [e1, Nat.mul_assoc, e2]; exact h
  · intro h
    refine zmag_roundRatio_ge good_b64 hd (val64_fits x) (e0 := 2 * b64.qmin - r) (by have := qmin_b64; omega) (by have := qmin_b64; omega) ?_
    rw [e1, Nat.mul_assoc, e2]; exact h
theorem div_le {a b : UInt64} (ha : DFin a) (hb : DFin b) (hp : 0 < Zv b) {V : Int} (hV : Rep V) (h : Zv a * P2 1074 ≤ V * Zv b) : Zv (FP.ddiv a b) ≤ V := by
  obtain ⟨x, hx, rfl⟩ := hV
  obtain ⟨s, A, B, h1, h2, h3, r, h4, h5, h6⟩ := div_core ha hb hp x hx
  rw [h4]
  rw [← h2, ← h1] at h
  exact own_sgn_le h3 h5 h6 h
theorem div_ge {a b : UInt64} (ha : DFin a) (hb : DFin b) (hp : 0 < Zv b) {V : Int} (hV : Rep V) (h : V * Zv b ≤ Zv a * P2 1074) : V ≤ Zv (FP.ddiv a b) := by
  obtain ⟨x, hx, rfl⟩ := hV
  obtain ⟨s, A, B, h1, h2, h3, r, h4, h5, h6⟩ := div_core ha hb hp x hx
  rw [h4]
  rw [← h2, ← h1] at h
  exact own_sgn_ge h3 h5 h6 h
theorem pos_nz {b : UInt64} (hp : 0 < Zv b) : ¬ DZero b := fun q => by
  have := q.zval
  unfold Zv at hp
  omega
theorem div_in {a b : UInt64} (ha : DFin a) (hb : DFin b) (hp : 0 < Zv b) {L H : Int} (hL : Rep L) (hH : Rep H) (h1 : L * Zv b ≤ Zv a * P2 1074) (h2 : Zv a * P2 1074 ≤ H * Zv b) : DFin (FP.ddiv a b) ∧ L ≤ Zv (FP.ddiv a b) ∧ Zv (FP.ddiv a b) ≤ H :=
  ⟨fin_between (not_nan (Core.ddiv_out ha.notNaN hb (pos_nz hp))) hL hH (div_ge ha hb hp hL h1) (div_le ha hb hp hH h2), div_ge ha hb hp hL h1, div_le ha hb hp hH h2⟩
theorem div_eq {a b : UInt64} (ha : DFin a) (hb : DFin b) (hp : 0 < Zv b) {V : Int} (hV : Rep V) (h : Zv a * P2 1074 = V * Zv b) : DFin (FP.ddiv a b) ∧ Zv (FP.ddiv a b) = V := by
  obtain ⟨h1, h2, h3⟩ := div_in ha hb hp hV hV (Int.le_of_eq h.symm) (Int.le_of_eq h)
  exact ⟨h1, Int.le_antisymm h3 h2⟩
/-! whole numbers -/
theorem l2d_in {n : Int64} {L H : Int} (hL : Rep L) (hH : Rep H) (h1 : L ≤ n.toInt * P2 1074) (h2 : n.toInt * P2 1074 ≤ H) : L ≤ Zv (FP.l2d n) ∧ Zv (FP.l2d n) ≤ H := by
  obtain ⟨x, hx, rfl⟩ := hL
  obtain ⟨y, hy, rfl⟩ := hH
  exact ⟨l2d_zval_ge hx.ne_nan h1, l2d_zval_le hy.ne_nan h2⟩
theorem l2d_dfin (n : Int64) : DFin (FP.l2d n) := Core.l2d_fin n
theorem i2d_dfin (n : Int32) : DFin (FP.i2d n) := Core.i2d_fin n
theorem l2d_rep {n : Int64} (h : Rep (n.toInt * P2 1074)) : Zv (FP.l2d n) = n.toInt * P2 1074 := by
  obtain ⟨h1, h2⟩ := l2d_in h h (Int.le_refl _) (Int.le_refl _)
  exact Int.le_antisymm h2 h1
theorem l2d_eq {n : Int64} (h : n.toInt.natAbs ≤ 2 ^ 53) : Zv (FP.l2d n) = n.toInt * P2 1074 := l2d_rep (rep_int _ h)
theorem i2d_eq (n : Int32) : Zv (FP.i2d n) = n.toInt * P2 1074 := by
  rw [i2d_w, l2d_eq (by rw [Int32.toInt_toInt64]; have := int32_abs n; omega), Int32.toInt_toInt64]
theorem d2l_eq {a : UInt64} (ha : DFin a) {n : Int} (h : Zv a = n * P2 1074) (h1 : -9223372036854775808 ≤ n) (h2 : n < 9223372036854775808) : (FP.d2l a).toInt = n := by
  have e := d2l_val ha.ne_nan
  have z : signed (sgn (val64 a)) (zmag b64 (val64 a)) = n * (one64 : Int) := h
  have hp := one64_pos
  have hm : zmag b64 (val64 a) = n.natAbs * one64 := by
    have q := congrArg Int.natAbs z
    rw [natAbs_signed, Int.natAbs_mul] at q
    exact q
  have hs : signed (sgn (val64 a)) n.natAbs = n := by
    rw [hm, signed_mul] at z
    exact Int.eq_of_mul_eq_mul_right (by omega) z
  rw [hm, Nat.mul_div_cancel _ hp, hs] at e
  show (Core.d2l a).toInt = n
  rw [e]; omega
/-! comparisons -/
theorem cmp_lt {a b : UInt64} (ha : DFin a) (hb : DFin b) (o : CmpOp) (h : Zv a < Zv b) : cmpValue (FP.dcmp a b) o = -1 := by
  rw [show FP.dcmp a b = some .lt from dcmp_lt.mpr ⟨ha.ne_nan, hb.ne_nan, h⟩]; rfl
theorem cmp_eq {a b : UInt64} (ha : DFin a) (hb : DFin b) (o : CmpOp) (h : Zv a = Zv b) : cmpValue (FP.dcmp a b) o = 0 := by
  rw [show FP.dcmp a b = some .eq from dcmp_eq.mpr ⟨ha.ne_nan, hb.ne_nan, h⟩]; rfl
theorem cmp_gt {a b : UInt64} (ha : DFin a) (hb : DFin b) (o : CmpOp) (h : Zv b < Zv a) : cmpValue (FP.dcmp a b) o = 1 := by
  rw [show FP.dcmp a b = some .gt from dcmp_gt.mpr ⟨ha.ne_nan, hb.ne_nan, h⟩]; rfl
/-! constants -/
theorem zero_fin : DFin 0 := (fin_bits _).mpr (by decide)
theorem zero_z : Zv 0 = 0 := zval64_zero
theorem one_fin : DFin 4607182418800017408 := (fin_bits _).mpr (by decide)
theorem one_z : Zv 4607182418800017408 = 1 * P2 1074 := by unfold Zv P2; decide +kernel
end OwnFp

/-! own layer 2: walking forward -/
section OwnGo
open Jvm.Free.Fl
variable {p : Program} {l : Launch} {e : Env} {R : Room} {s : State} {m : MethodId} {args : Array Value} {below : List Frame} {meth : Method} {c : Code} {T : State} {locs : List Loc} {cells slots : Nat} {Q : Outcome → State → Prop}
/-- from here the run comes to an end that Q allows -/
def Go (p : Program) (e : Env) (below : List Frame) (Q : Outcome → State → Prop) (S : State) : Prop :=
  ∃ s₂ o, Steps p.tables e below S s₂ ∧ s₂.status = .running ∧ Ended s₂ below o ∧ Q o s₂
theorem Go.of {S S' : State} (h : ∀ t, Steps p.tables e below S' t → Steps p.tables e below S t) (g : Go p e below Q S') : Go p e below Q S := by
  obtain ⟨s₂, o, h1, h2⟩ := g
  exact ⟨s₂, o, h _ h1, h2⟩
theorem Go.tr {S S' : State} (h : Steps p.tables e below S S') (g : Go p e below Q S') : Go p e below Q S := Go.of (fun _ k => h.trans k) g
abbrev Ret (s : State) (Qv : Option Value → Heap → List Loc → Prop) (kc ks : Nat) : Outcome → State → Prop := fun o U' => ∃ v L, o = .returned v ∧ Qv v U'.heap L ∧ FrameEnd s o U' L kc ks
theorem Go.done (X : Stand p l e R s m args below meth c T locs cells slots) {g : JFrame} {v : Option Value} (hv : meth.sig.returnType = none → v = none) (hlocks : meth.locks = false)
    (hst : ∀ fs, (∀ (f : JFrame) (acts : List Action), f.method = m → f.locked = none → f.entered = [] → (doReturn e (T.setTop f) acts v).1 = T.setFrames fs) → Steps p.tables e below (T.setTop g) (T.setFrames fs))
    {Qv : Option Value → Heap → List Loc → Prop} {kc ks : Nat} (hc : cells ≤ kc) (hk : slots ≤ ks) (hq : Qv v T.heap locs) : Go p e below (Ret s Qv kc ks) (T.setTop g) := by
  obtain ⟨fs, hr, hrun, hended, hW, hsame⟩ := X.leave (v := v) hv hlocks
  exact ⟨_, _, hst fs hr, hrun, hended, v, locs, rfl, hq, ⟨_, rfl⟩, hW, hsame.mono hc hk⟩
theorem Go.retV (X : Stand p l e R s m args below meth c T locs cells slots) (hx : p.tables.exec = Jvm.exec) {pc : Nat} {Ls : Array Slot} (hret : meth.sig.returnType = none) (hlk : meth.locks = false) (hd : decode c.code pc = .ok (.return_, 1))
    {Qv : Option Value → Heap → List Loc → Prop} {kc ks : Nat} (hc : cells ≤ kc) (hk : slots ≤ ks) (hq : Qv none T.heap locs) : Go p e below (Ret s Qv kc ks) (T.setTop (mkF m pc Ls [])) :=
  Go.done X (fun _ => rfl) hlk (fun _ hr => X.returnOut hx hret hd hr) hc hk hq
theorem Go.retL (X : Stand p l e R s m args below meth c T locs cells slots) (hx : p.tables.exec = Jvm.exec) {pc : Nat} {Ls : Array Slot} {st : List Value} {z : Int64} (hret : meth.sig.returnType = some .long) (hlk : meth.locks = false) (hd : decode c.code pc = .ok (.lreturn, 1))
    {Qv : Option Value → Heap → List Loc → Prop} {kc ks : Nat} (hc : cells ≤ kc) (hk : slots ≤ ks) (hq : Qv (some (.long z)) T.heap locs) : Go p e below (Ret s Qv kc ks) (T.setTop (mkF m pc Ls ((.long z) :: st))) :=
  Go.done X (fun h => by rw [hret] at h; cases h) hlk (fun _ hr => retOut X hx hret rfl (Or.inr (Or.inl ⟨rfl, rfl, z, rfl⟩)) hd hr) hc hk hq
theorem Go.retD (X : Stand p l e R s m args below meth c T locs cells slots) (hx : p.tables.exec = Jvm.exec) {pc : Nat} {Ls : Array Slot} {st : List Value} {z : UInt64} (hret : meth.sig.returnType = some .double) (hlk : meth.locks = false) (hd : decode c.code pc = .ok (.dreturn, 1))
    {Qv : Option Value → Heap → List Loc → Prop} {kc ks : Nat} (hc : cells ≤ kc) (hk : slots ≤ ks) (hq : Qv (some (.double z)) T.heap locs) : Go p e below (Ret s Qv kc ks) (T.setTop (mkF m pc Ls ((.double z) :: st))) :=
  Go.done X (fun h => by rw [hret] at h; cases h) hlk (fun _ hr => retOut X hx hret rfl (Or.inr (Or.inr (Or.inl ⟨rfl, rfl, z, rfl⟩))) hd hr) hc hk hq
theorem Go.retF (X : Stand p l e R s m args below meth c T locs cells slots) (hx : p.tables.exec = Jvm.exec) {pc : Nat} {Ls : Array Slot} {st : List Value} {z : UInt32} (hret : meth.sig.returnType = some .float) (hlk : meth.locks = false) (hd : decode c.code pc = .ok (.freturn, 1))
    {Qv : Option Value → Heap → List Loc → Prop} {kc ks : Nat} (hc : cells ≤ kc) (hk : slots ≤ ks) (hq : Qv (some (.float z)) T.heap locs) : Go p e below (Ret s Qv kc ks) (T.setTop (mkF m pc Ls ((.float z) :: st))) :=
  Go.done X (fun h => by rw [hret] at h; cases h) hlk (fun _ hr => retOut X hx hret rfl (Or.inr (Or.inr (Or.inr (Or.inl ⟨rfl, rfl, z, rfl⟩)))) hd hr) hc hk hq
theorem Go.retI (X : Stand p l e R s m args below meth c T locs cells slots) (hx : p.tables.exec = Jvm.exec) {pc : Nat} {Ls : Array Slot} {st : List Value} {z : Int32} (hret : meth.sig.returnType = some .int) (hlk : meth.locks = false) (hd : decode c.code pc = .ok (.ireturn, 1))
    {Qv : Option Value → Heap → List Loc → Prop} {kc ks : Nat} (hc : cells ≤ kc) (hk : slots ≤ ks) (hq : Qv (some (.int z)) T.heap locs) : Go p e below (Ret s Qv kc ks) (T.setTop (mkF m pc Ls ((.int z) :: st))) :=
  Go.done X (fun h => by rw [hret] at h; cases h) hlk (fun _ hr => retOut X hx hret rfl (Or.inl ⟨rfl, Or.inl rfl, z, rfl⟩) hd hr) hc hk hq
theorem Go.retZ (X : Stand p l e R s m args below meth c T locs cells slots) (hx : p.tables.exec = Jvm.exec) {pc : Nat} {Ls : Array Slot} {st : List Value} {z : Int32} (hret : meth.sig.returnType = some .boolean) (hlk : meth.locks = false) (hd : decode c.code pc = .ok (.ireturn, 1)) (hz : z = 0 ∨ z = 1)
    {Qv : Option Value → Heap → List Loc → Prop} {kc ks : Nat} (hc : cells ≤ kc) (hk : slots ≤ ks) (hq : Qv (some (.int z)) T.heap locs) : Go p e below (Ret s Qv kc ks) (T.setTop (mkF m pc Ls ((.int z) :: st))) :=
  Go.done X (fun h => by rw [hret] at h; cases h) hlk (fun _ hr => retOut X hx hret (by rcases hz with rfl | rfl <;> rfl) (Or.inl ⟨rfl, Or.inr (Or.inl rfl), z, rfl⟩) hd hr) hc hk hq
theorem Go.retA (X : Stand p l e R s m args below meth c T locs cells slots) (hx : p.tables.exec = Jvm.exec) {pc : Nat} {Ls : Array Slot} {st : List Value} {v : Value} {t : FieldType} (hret : meth.sig.returnType = some t) (hlk : meth.locks = false) (hd : decode c.code pc = .ok (.areturn, 1)) (ht : t.isReference = true) (hv : v.isRef = true) (hn : narrow t v = v)
    {Qv : Option Value → Heap → List Loc → Prop} {kc ks : Nat} (hc : cells ≤ kc) (hk : slots ≤ ks) (hq : Qv (some v) T.heap locs) : Go p e below (Ret s Qv kc ks) (T.setTop (mkF m pc Ls (v :: st))) :=
  Go.done X (fun h => by rw [hret] at h; cases h) hlk (fun _ hr => retOut X hx hret hn (Or.inr (Or.inr (Or.inr (Or.inr ⟨rfl, ht, hv⟩)))) hd hr) hc hk hq
theorem enter {l : Launch} {Z : State} {y : MethodName} {bytes : ByteArray} {maxL : Nat} {ret : Option FieldType} {ws : List Jvm.Cond} {rm : Room} {as' : Array Value} {h0 : Heap} {Qv : Option Value → Heap → List Loc → Prop} {Ls : Array Slot} {kc ks : Nat}
    (hpn : plainFor y = true) (hef : ∀ m, entryFrame m as' maxL = mkF m 0 Ls [])
    (body : ∀ (p : Program) (e : Env) (s : State) (m : MethodId) (below : List Frame) (meth : Method) (c : Code) (s₁ : State), p.tables.exec = Jvm.exec → c.code = bytes → c.maxLocals = maxL → s.vm.findClass y.cls = some m.cls → meth.name = y.name → meth.sig.returnType = ret → meth.locks = false → Z.Warmed39 s.vm →
      Stand p l e rm s m as' below meth c s₁ [] 0 0 → s₁.heap = h0 → Go p e below (Ret s Qv kc ks) (s₁.setTop (mkF m 0 Ls []))) :
    MetFree l y (head1 (Jvm.Cond.code y bytes maxL ret :: ws) rm) (fun a U => a = as' ∧ Z.Warmed39 U.vm ∧ U.heap = h0) (fun _ _ _ _ _ => True) (fun _ U o U' => ∃ v L, o = .returned v ∧ Qv v U'.heap L ∧ FrameEnd U o U' L kc ks) := by
  refine MetFree.of_bodySF hpn hisR ?_
  intro p e s m args below meth c s₁ Bd hml0 hP hK
  obtain ⟨rfl, hZ, hh⟩ := hP
  have e0 : s₁.heap = h0 := by rw [← hh, Bd.state]; rfl
  obtain ⟨s₂, o, h1, h2, h3, h4⟩ := body p e s m below meth c s₁ Bd.exec Bd.bytes hml0 (findClass_of_methodNamed Bd.named) (name_of_methodNamed Bd.named Bd.method).1 Bd.returns (BodyLoose.notSynchronized Bd) hZ (Stand.of_body Bd) e0
  exact ⟨s₂, o, castTop (hef m) h1, h2, h3, h4⟩
theorem Go.iload (h : At T m c below) (hx : p.tables.exec = Jvm.exec) {pc q : Nat} {Ls : Array Slot} {st : List Value} {k : Nat} {v : Int32} (hd : decode c.code pc = .ok (.iload k, 2)) (hl : Ls[k]? = some (.val (.int v))) (hq : pc + 2 = q) (g : Go p e below Q (T.setTop (mkF m q Ls (.int v :: st)))) : Go p e below Q (T.setTop (mkF m pc Ls st)) := by
  subst hq; exact Go.of (fun _ r => XS.iload h hx rfl hd hl r) g
theorem Go.iloadN (h : At T m c below) (hx : p.tables.exec = Jvm.exec) {pc q : Nat} {Ls : Array Slot} {st : List Value} {k : Fin 4} {v : Int32} (hd : decode c.code pc = .ok (.iload_n k, 1)) (hl : Ls[k.val]? = some (.val (.int v))) (hq : pc + 1 = q) (g : Go p e below Q (T.setTop (mkF m q Ls (.int v :: st)))) : Go p e below Q (T.setTop (mkF m pc Ls st)) := by
  subst hq; exact Go.of (fun _ r => XS.iloadN h hx rfl hd hl r) g
theorem Go.istore (h : At T m c below) (hx : p.tables.exec = Jvm.exec) {pc q : Nat} {Ls : Array Slot} {st : List Value} {k : Nat} {v : Int32} {l2 : Array Slot} (hd : decode c.code pc = .ok (.istore k, 2)) (hl : storeLocals Ls k (.int v) = some l2) (hq : pc + 2 = q) (g : Go p e below Q (T.setTop (mkF m q l2 st))) : Go p e below Q (T.setTop (mkF m pc Ls (.int v :: st))) := by
  subst hq; exact Go.of (fun _ r => XS.istore h hx rfl hd rfl hl r) g
theorem Go.istoreN (h : At T m c below) (hx : p.tables.exec = Jvm.exec) {pc q : Nat} {Ls : Array Slot} {st : List Value} {k : Fin 4} {v : Int32} {l2 : Array Slot} (hd : decode c.code pc = .ok (.istore_n k, 1)) (hl : storeLocals Ls k.val (.int v) = some l2) (hq : pc + 1 = q) (g : Go p e below Q (T.setTop (mkF m q l2 st))) : Go p e below Q (T.setTop (mkF m pc Ls (.int v :: st))) := by
  subst hq; exact Go.of (fun _ r => XS.istoreN h hx rfl hd rfl hl r) g
theorem Go.lload (h : At T m c below) (hx : p.tables.exec = Jvm.exec) {pc q : Nat} {Ls : Array Slot} {st : List Value} {k : Nat} {v : Int64} (hd : decode c.code pc = .ok (.lload k, 2)) (hl : Ls[k]? = some (.val (.long v))) (hq : pc + 2 = q) (g : Go p e below Q (T.setTop (mkF m q Ls (.long v :: st)))) : Go p e below Q (T.setTop (mkF m pc Ls st)) := by
  subst hq; exact Go.of (fun _ r => XS.lload h hx rfl hd hl r) g
theorem Go.lloadN (h : At T m c below) (hx : p.tables.exec = Jvm.exec) {pc q : Nat} {Ls : Array Slot} {st : List Value} {k : Fin 4} {v : Int64} (hd : decode c.code pc = .ok (.lload_n k, 1)) (hl : Ls[k.val]? = some (.val (.long v))) (hq : pc + 1 = q) (g : Go p e below Q (T.setTop (mkF m q Ls (.long v :: st)))) : Go p e below Q (T.setTop (mkF m pc Ls st)) := by
  subst hq; exact Go.of (fun _ r => XS.lloadN h hx rfl hd hl r) g
theorem Go.lstore (h : At T m c below) (hx : p.tables.exec = Jvm.exec) {pc q : Nat} {Ls : Array Slot} {st : List Value} {k : Nat} {v : Int64} {l2 : Array Slot} (hd : decode c.code pc = .ok (.lstore k, 2)) (hl : storeLocals Ls k (.long v) = some l2) (hq : pc + 2 = q) (g : Go p e below Q (T.setTop (mkF m q l2 st))) : Go p e below Q (T.setTop (mkF m pc Ls (.long v :: st))) := by
  subst hq; exact Go.of (fun _ r => XS.lstore h hx rfl hd rfl hl r) g
theorem Go.lstoreN (h : At T m c below) (hx : p.tables.exec = Jvm.exec) {pc q : Nat} {Ls : Array Slot} {st : List Value} {k : Fin 4} {v : Int64} {l2 : Array Slot} (hd : decode c.code pc = .ok (.lstore_n k, 1)) (hl : storeLocals Ls k.val (.long v) = some l2) (hq : pc + 1 = q) (g : Go p e below Q (T.setTop (mkF m q l2 st))) : Go p e below Q (T.setTop (mkF m pc Ls (.long v :: st))) := by
  subst hq; exact Go.of (fun _ r => XS.lstoreN h hx rfl hd rfl hl r) g
theorem Go.dload (h : At T m c below) (hx : p.tables.exec = Jvm.exec) {pc q : Nat} {Ls : Array Slot} {st : List Value} {k : Nat} {v : UInt64} (hd : decode c.code pc = .ok (.dload k, 2)) (hl : Ls[k]? = some (.val (.double v))) (hq : pc + 2 = q) (g : Go p e below Q (T.setTop (mkF m q Ls (.double v :: st)))) : Go p e below Q (T.setTop (mkF m pc Ls st)) := by
  subst hq; exact Go.of (fun _ r => XS.dload h hx rfl hd hl r) g
theorem Go.dloadN (h : At T m c below) (hx : p.tables.exec = Jvm.exec) {pc q : Nat} {Ls : Array Slot} {st : List Value} {k : Fin 4} {v : UInt64} (hd : decode c.code pc = .ok (.dload_n k, 1)) (hl : Ls[k.val]? = some (.val (.double v))) (hq : pc + 1 = q) (g : Go p e below Q (T.setTop (mkF m q Ls (.double v :: st)))) : Go p e below Q (T.setTop (mkF m pc Ls st)) := by
  subst hq; exact Go.of (fun _ r => XS.dloadN h hx rfl hd hl r) g
theorem Go.dstore (h : At T m c below) (hx : p.tables.exec = Jvm.exec) {pc q : Nat} {Ls : Array Slot} {st : List Value} {k : Nat} {v : UInt64} {l2 : Array Slot} (hd : decode c.code pc = .ok (.dstore k, 2)) (hl : storeLocals Ls k (.double v) = some l2) (hq : pc + 2 = q) (g : Go p e below Q (T.setTop (mkF m q l2 st))) : Go p e below Q (T.setTop (mkF m pc Ls (.double v :: st))) := by
  subst hq; exact Go.of (fun _ r => XS.dstore h hx rfl hd rfl hl r) g
theorem Go.dstoreN (h : At T m c below) (hx : p.tables.exec = Jvm.exec) {pc q : Nat} {Ls : Array Slot} {st : List Value} {k : Fin 4} {v : UInt64} {l2 : Array Slot} (hd : decode c.code pc = .ok (.dstore_n k, 1)) (hl : storeLocals Ls k.val (.double v) = some l2) (hq : pc + 1 = q) (g : Go p e below Q (T.setTop (mkF m q l2 st))) : Go p e below Q (T.setTop (mkF m pc Ls (.double v :: st))) := by
  subst hq; exact Go.of (fun _ r => XS.dstoreN h hx rfl hd rfl hl r) g
theorem Go.fload (h : At T m c below) (hx : p.tables.exec = Jvm.exec) {pc q : Nat} {Ls : Array Slot} {st : List Value} {k : Nat} {v : UInt32} (hd : decode c.code pc = .ok (.fload k, 2)) (hl : Ls[k]? = some (.val (.float v))) (hq : pc + 2 = q) (g : Go p e below Q (T.setTop (mkF m q Ls (.float v :: st)))) : Go p e below Q (T.setTop (mkF m pc Ls st)) := by
  subst hq; exact Go.of (fun _ r => XS.fload h hx rfl hd hl r) g
theorem Go.floadN (h : At T m c below) (hx : p.tables.exec = Jvm.exec) {pc q : Nat} {Ls : Array Slot} {st : List Value} {k : Fin 4} {v : UInt32} (hd : decode c.code pc = .ok (.fload_n k, 1)) (hl : Ls[k.val]? = some (.val (.float v))) (hq : pc + 1 = q) (g : Go p e below Q (T.setTop (mkF m q Ls (.float v :: st)))) : Go p e below Q (T.setTop (mkF m pc Ls st)) := by
  subst hq; exact Go.of (fun _ r => XS.floadN h hx rfl hd hl r) g
theorem Go.fstore (h : At T m c below) (hx : p.tables.exec = Jvm.exec) {pc q : Nat} {Ls : Array Slot} {st : List Value} {k : Nat} {v : UInt32} {l2 : Array Slot} (hd : decode c.code pc = .ok (.fstore k, 2)) (hl : storeLocals Ls k (.float v) = some l2) (hq : pc + 2 = q) (g : Go p e below Q (T.setTop (mkF m q l2 st))) : Go p e below Q (T.setTop (mkF m pc Ls (.float v :: st))) := by
  subst hq; exact Go.of (fun _ r => XS.fstore h hx rfl hd rfl hl r) g
theorem Go.fstoreN (h : At T m c below) (hx : p.tables.exec = Jvm.exec) {pc q : Nat} {Ls : Array Slot} {st : List Value} {k : Fin 4} {v : UInt32} {l2 : Array Slot} (hd : decode c.code pc = .ok (.fstore_n k, 1)) (hl : storeLocals Ls k.val (.float v) = some l2) (hq : pc + 1 = q) (g : Go p e below Q (T.setTop (mkF m q l2 st))) : Go p e below Q (T.setTop (mkF m pc Ls (.float v :: st))) := by
  subst hq; exact Go.of (fun _ r => XS.fstoreN h hx rfl hd rfl hl r) g
theorem Go.aload (h : At T m c below) (hx : p.tables.exec = Jvm.exec) {pc q : Nat} {Ls : Array Slot} {st : List Value} {k : Nat} {v : Value} (hd : decode c.code pc = .ok (.aload k, 2)) (hl : Ls[k]? = some (.val v)) (hv : v.isRef = true) (hq : pc + 2 = q) (g : Go p e below Q (T.setTop (mkF m q Ls (v :: st)))) : Go p e below Q (T.setTop (mkF m pc Ls st)) := by
  subst hq; exact Go.of (fun _ r => XS.aload h hx rfl hd hl hv r) g
theorem Go.aloadN (h : At T m c below) (hx : p.tables.exec = Jvm.exec) {pc q : Nat} {Ls : Array Slot} {st : List Value} {k : Fin 4} {v : Value} (hd : decode c.code pc = .ok (.aload_n k, 1)) (hl : Ls[k.val]? = some (.val v)) (hv : v.isRef = true) (hq : pc + 1 = q) (g : Go p e below Q (T.setTop (mkF m q Ls (v :: st)))) : Go p e below Q (T.setTop (mkF m pc Ls st)) := by
  subst hq; exact Go.of (fun _ r => XS.aloadN h hx rfl hd hl hv r) g
theorem Go.astore (h : At T m c below) (hx : p.tables.exec = Jvm.exec) {pc q : Nat} {Ls : Array Slot} {st : List Value} {k : Nat} {v : Value} {l2 : Array Slot} (hd : decode c.code pc = .ok (.astore k, 2)) (hv : v.isRef = true) (hl : storeLocals Ls k v = some l2) (hq : pc + 2 = q) (g : Go p e below Q (T.setTop (mkF m q l2 st))) : Go p e below Q (T.setTop (mkF m pc Ls (v :: st))) := by
  subst hq; exact Go.of (fun _ r => XS.astore h hx rfl hd rfl hv hl r) g
theorem Go.astoreN (h : At T m c below) (hx : p.tables.exec = Jvm.exec) {pc q : Nat} {Ls : Array Slot} {st : List Value} {k : Fin 4} {v : Value} {l2 : Array Slot} (hd : decode c.code pc = .ok (.astore_n k, 1)) (hv : v.isRef = true) (hl : storeLocals Ls k.val v = some l2) (hq : pc + 1 = q) (g : Go p e below Q (T.setTop (mkF m q l2 st))) : Go p e below Q (T.setTop (mkF m pc Ls (v :: st))) := by
  subst hq; exact Go.of (fun _ r => XS.astoreN h hx rfl hd rfl hv hl r) g
theorem Go.iconst (h : At T m c below) (hx : p.tables.exec = Jvm.exec) {pc q : Nat} {Ls : Array Slot} {st : List Value} {i : Int} {v : Int32} (hd : decode c.code pc = .ok (.iconst i, 1)) (hv : Int32.ofInt i = v) (hq : pc + 1 = q) (g : Go p e below Q (T.setTop (mkF m q Ls (.int v :: st)))) : Go p e below Q (T.setTop (mkF m pc Ls st)) := by
  subst hq hv; exact Go.of (fun _ r => XS.iconst h hx rfl hd r) g
theorem Go.bipush (h : At T m c below) (hx : p.tables.exec = Jvm.exec) {pc q : Nat} {Ls : Array Slot} {st : List Value} {i : Int} {v : Int32} (hd : decode c.code pc = .ok (.bipush i, 2)) (hv : (Int8.ofInt i).toInt32 = v) (hq : pc + 2 = q) (g : Go p e below Q (T.setTop (mkF m q Ls (.int v :: st)))) : Go p e below Q (T.setTop (mkF m pc Ls st)) := by
  subst hq hv; exact Go.of (fun _ r => XS.bipush h hx rfl hd r) g
theorem Go.sipush (h : At T m c below) (hx : p.tables.exec = Jvm.exec) {pc q : Nat} {Ls : Array Slot} {st : List Value} {i : Int} {v : Int32} (hd : decode c.code pc = .ok (.sipush i, 3)) (hv : (Int16.ofInt i).toInt32 = v) (hq : pc + 3 = q) (g : Go p e below Q (T.setTop (mkF m q Ls (.int v :: st)))) : Go p e below Q (T.setTop (mkF m pc Ls st)) := by
  subst hq hv; exact Go.of (fun _ r => XS.sipush h hx rfl hd r) g
theorem Go.lconst (h : At T m c below) (hx : p.tables.exec = Jvm.exec) {pc q : Nat} {Ls : Array Slot} {st : List Value} {k : Fin 2} {v : Int64} (hd : decode c.code pc = .ok (.lconst k, 1)) (hv : Int64.ofNat k = v) (hq : pc + 1 = q) (g : Go p e below Q (T.setTop (mkF m q Ls (.long v :: st)))) : Go p e below Q (T.setTop (mkF m pc Ls st)) := by
  subst hq hv; exact Go.of (fun _ r => XS.lconst h hx rfl hd r) g
theorem Go.aconst (h : At T m c below) (hx : p.tables.exec = Jvm.exec) {pc q : Nat} {Ls : Array Slot} {st : List Value}  (hd : decode c.code pc = .ok (.aconst_null, 1)) (hq : pc + 1 = q) (g : Go p e below Q (T.setTop (mkF m q Ls (.null :: st)))) : Go p e below Q (T.setTop (mkF m pc Ls st)) := by
  subst hq; exact Go.of (fun _ r => XS.aconstNull h hx rfl hd r) g
theorem Go.dconst0 (h : At T m c below) (hx : p.tables.exec = Jvm.exec) {pc q : Nat} {Ls : Array Slot} {st : List Value} {v : UInt64} (hd : decode c.code pc = .ok (.dconst 0, 1)) (hv : FP.dconst0 = v) (hq : pc + 1 = q) (g : Go p e below Q (T.setTop (mkF m q Ls (.double v :: st)))) : Go p e below Q (T.setTop (mkF m pc Ls st)) := by
  subst hq; exact Go.of (fun _ r => XS.dconst0 h hx rfl hd hv r) g
theorem Go.dconst1 (h : At T m c below) (hx : p.tables.exec = Jvm.exec) {pc q : Nat} {Ls : Array Slot} {st : List Value} {v : UInt64} (hd : decode c.code pc = .ok (.dconst 1, 1)) (hv : FP.dconst1 = v) (hq : pc + 1 = q) (g : Go p e below Q (T.setTop (mkF m q Ls (.double v :: st)))) : Go p e below Q (T.setTop (mkF m pc Ls st)) := by
  subst hq; exact Go.of (fun _ r => XS.dconst1 h hx rfl hd hv r) g
theorem Go.fconst0 (h : At T m c below) (hx : p.tables.exec = Jvm.exec) {pc q : Nat} {Ls : Array Slot} {st : List Value} {v : UInt32} (hd : decode c.code pc = .ok (.fconst 0, 1)) (hv : FP.fconst0 = v) (hq : pc + 1 = q) (g : Go p e below Q (T.setTop (mkF m q Ls (.float v :: st)))) : Go p e below Q (T.setTop (mkF m pc Ls st)) := by
  subst hq; exact Go.of (fun _ r => XS.fconst0 h hx rfl hd hv r) g
theorem Go.fconst1 (h : At T m c below) (hx : p.tables.exec = Jvm.exec) {pc q : Nat} {Ls : Array Slot} {st : List Value} {v : UInt32} (hd : decode c.code pc = .ok (.fconst 1, 1)) (hv : FP.fconst1 = v) (hq : pc + 1 = q) (g : Go p e below Q (T.setTop (mkF m q Ls (.float v :: st)))) : Go p e below Q (T.setTop (mkF m pc Ls st)) := by
  subst hq; exact Go.of (fun _ r => XS.fconst1 h hx rfl hd hv r) g
theorem Go.iadd (h : At T m c below) (hx : p.tables.exec = Jvm.exec) {pc q : Nat} {Ls : Array Slot} {st : List Value} {x : Int32} {y : Int32} {v : Int32} (hd : decode c.code pc = .ok (.iadd, 1)) (hv : x + y = v) (hq : pc + 1 = q) (g : Go p e below Q (T.setTop (mkF m q Ls (.int v :: st)))) : Go p e below Q (T.setTop (mkF m pc Ls (.int y :: .int x :: st))) := by
  subst hq hv; exact Go.of (fun _ r => XS.iadd h hx rfl hd rfl r) g
theorem Go.isub (h : At T m c below) (hx : p.tables.exec = Jvm.exec) {pc q : Nat} {Ls : Array Slot} {st : List Value} {x : Int32} {y : Int32} {v : Int32} (hd : decode c.code pc = .ok (.isub, 1)) (hv : x - y = v) (hq : pc + 1 = q) (g : Go p e below Q (T.setTop (mkF m q Ls (.int v :: st)))) : Go p e below Q (T.setTop (mkF m pc Ls (.int y :: .int x :: st))) := by
  subst hq hv; exact Go.of (fun _ r => XS.isub h hx rfl hd rfl r) g
theorem Go.iand (h : At T m c below) (hx : p.tables.exec = Jvm.exec) {pc q : Nat} {Ls : Array Slot} {st : List Value} {x : Int32} {y : Int32} {v : Int32} (hd : decode c.code pc = .ok (.iand, 1)) (hv : x &&& y = v) (hq : pc + 1 = q) (g : Go p e below Q (T.setTop (mkF m q Ls (.int v :: st)))) : Go p e below Q (T.setTop (mkF m pc Ls (.int y :: .int x :: st))) := by
  subst hq hv; exact Go.of (fun _ r => XS.iand h hx rfl hd rfl r) g
theorem Go.imul (h : At T m c below) (hx : p.tables.exec = Jvm.exec) {pc q : Nat} {Ls : Array Slot} {st : List Value} {x : Int32} {y : Int32} {v : Int32} (hd : decode c.code pc = .ok (.imul, 1)) (hv : x * y = v) (hq : pc + 1 = q) (g : Go p e below Q (T.setTop (mkF m q Ls (.int v :: st)))) : Go p e below Q (T.setTop (mkF m pc Ls (.int y :: .int x :: st))) := by
  subst hq hv; exact Go.of (fun _ r => XS.imul h hx rfl hd rfl r) g
theorem Go.ixor (h : At T m c below) (hx : p.tables.exec = Jvm.exec) {pc q : Nat} {Ls : Array Slot} {st : List Value} {x : Int32} {y : Int32} {v : Int32} (hd : decode c.code pc = .ok (.ixor, 1)) (hv : x ^^^ y = v) (hq : pc + 1 = q) (g : Go p e below Q (T.setTop (mkF m q Ls (.int v :: st)))) : Go p e below Q (T.setTop (mkF m pc Ls (.int y :: .int x :: st))) := by
  subst hq hv; exact Go.of (fun _ r => XS.ixor h hx rfl hd rfl r) g
theorem Go.ior (h : At T m c below) (hx : p.tables.exec = Jvm.exec) {pc q : Nat} {Ls : Array Slot} {st : List Value} {x : Int32} {y : Int32} {v : Int32} (hd : decode c.code pc = .ok (.ior, 1)) (hv : x ||| y = v) (hq : pc + 1 = q) (g : Go p e below Q (T.setTop (mkF m q Ls (.int v :: st)))) : Go p e below Q (T.setTop (mkF m pc Ls (.int y :: .int x :: st))) := by
  subst hq hv; exact Go.of (fun _ r => XS.ior h hx rfl hd rfl r) g
theorem Go.ishl (h : At T m c below) (hx : p.tables.exec = Jvm.exec) {pc q : Nat} {Ls : Array Slot} {st : List Value} {x : Int32} {y : Int32} {v : Int32} (hd : decode c.code pc = .ok (.ishl, 1)) (hv : x <<< (y &&& 31) = v) (hq : pc + 1 = q) (g : Go p e below Q (T.setTop (mkF m q Ls (.int v :: st)))) : Go p e below Q (T.setTop (mkF m pc Ls (.int y :: .int x :: st))) := by
  subst hq hv; exact Go.of (fun _ r => XS.ishl h hx rfl hd rfl r) g
theorem Go.ishr (h : At T m c below) (hx : p.tables.exec = Jvm.exec) {pc q : Nat} {Ls : Array Slot} {st : List Value} {x : Int32} {y : Int32} {v : Int32} (hd : decode c.code pc = .ok (.ishr, 1)) (hv : x >>> (y &&& 31) = v) (hq : pc + 1 = q) (g : Go p e below Q (T.setTop (mkF m q Ls (.int v :: st)))) : Go p e below Q (T.setTop (mkF m pc Ls (.int y :: .int x :: st))) := by
  subst hq hv; exact Go.of (fun _ r => XS.ishr h hx rfl hd rfl r) g
theorem Go.iushr (h : At T m c below) (hx : p.tables.exec = Jvm.exec) {pc q : Nat} {Ls : Array Slot} {st : List Value} {x : Int32} {y : Int32} {v : Int32} (hd : decode c.code pc = .ok (.iushr, 1)) (hv : (x.toUInt32 >>> (y &&& 31).toUInt32).toInt32 = v) (hq : pc + 1 = q) (g : Go p e below Q (T.setTop (mkF m q Ls (.int v :: st)))) : Go p e below Q (T.setTop (mkF m pc Ls (.int y :: .int x :: st))) := by
  subst hq hv; exact Go.of (fun _ r => XS.iushr h hx rfl hd rfl r) g
theorem Go.idiv (h : At T m c below) (hx : p.tables.exec = Jvm.exec) {pc q : Nat} {Ls : Array Slot} {st : List Value} {x : Int32} {y : Int32} {v : Int32} (hd : decode c.code pc = .ok (.idiv, 1)) (hy : y ≠ 0) (hv : x / y = v) (hq : pc + 1 = q) (g : Go p e below Q (T.setTop (mkF m q Ls (.int v :: st)))) : Go p e below Q (T.setTop (mkF m pc Ls (.int y :: .int x :: st))) := by
  subst hq hv; exact Go.of (fun _ r => XS.idiv h hx rfl hd rfl hy r) g
theorem Go.irem (h : At T m c below) (hx : p.tables.exec = Jvm.exec) {pc q : Nat} {Ls : Array Slot} {st : List Value} {x : Int32} {y : Int32} {v : Int32} (hd : decode c.code pc = .ok (.irem, 1)) (hy : y ≠ 0) (hv : x - (x / y) * y = v) (hq : pc + 1 = q) (g : Go p e below Q (T.setTop (mkF m q Ls (.int v :: st)))) : Go p e below Q (T.setTop (mkF m pc Ls (.int y :: .int x :: st))) := by
  subst hq hv; exact Go.of (fun _ r => XS.irem h hx rfl hd rfl hy r) g
theorem Go.ladd (h : At T m c below) (hx : p.tables.exec = Jvm.exec) {pc q : Nat} {Ls : Array Slot} {st : List Value} {x : Int64} {y : Int64} {v : Int64} (hd : decode c.code pc = .ok (.ladd, 1)) (hv : x + y = v) (hq : pc + 1 = q) (g : Go p e below Q (T.setTop (mkF m q Ls (.long v :: st)))) : Go p e below Q (T.setTop (mkF m pc Ls (.long y :: .long x :: st))) := by
  subst hq hv; exact Go.of (fun _ r => XS.ladd h hx rfl hd rfl r) g
theorem Go.lsub (h : At T m c below) (hx : p.tables.exec = Jvm.exec) {pc q : Nat} {Ls : Array Slot} {st : List Value} {x : Int64} {y : Int64} {v : Int64} (hd : decode c.code pc = .ok (.lsub, 1)) (hv : x - y = v) (hq : pc + 1 = q) (g : Go p e below Q (T.setTop (mkF m q Ls (.long v :: st)))) : Go p e below Q (T.setTop (mkF m pc Ls (.long y :: .long x :: st))) := by
  subst hq hv; exact Go.of (fun _ r => XS.lsub h hx rfl hd rfl r) g
theorem Go.lmul (h : At T m c below) (hx : p.tables.exec = Jvm.exec) {pc q : Nat} {Ls : Array Slot} {st : List Value} {x : Int64} {y : Int64} {v : Int64} (hd : decode c.code pc = .ok (.lmul, 1)) (hv : x * y = v) (hq : pc + 1 = q) (g : Go p e below Q (T.setTop (mkF m q Ls (.long v :: st)))) : Go p e below Q (T.setTop (mkF m pc Ls (.long y :: .long x :: st))) := by
  subst hq hv; exact Go.of (fun _ r => XS.lmul h hx rfl hd rfl r) g
theorem Go.land (h : At T m c below) (hx : p.tables.exec = Jvm.exec) {pc q : Nat} {Ls : Array Slot} {st : List Value} {x : Int64} {y : Int64} {v : Int64} (hd : decode c.code pc = .ok (.land, 1)) (hv : x &&& y = v) (hq : pc + 1 = q) (g : Go p e below Q (T.setTop (mkF m q Ls (.long v :: st)))) : Go p e below Q (T.setTop (mkF m pc Ls (.long y :: .long x :: st))) := by
  subst hq hv; exact Go.of (fun _ r => XS.land h hx rfl hd rfl r) g
theorem Go.lor (h : At T m c below) (hx : p.tables.exec = Jvm.exec) {pc q : Nat} {Ls : Array Slot} {st : List Value} {x : Int64} {y : Int64} {v : Int64} (hd : decode c.code pc = .ok (.lor, 1)) (hv : x ||| y = v) (hq : pc + 1 = q) (g : Go p e below Q (T.setTop (mkF m q Ls (.long v :: st)))) : Go p e below Q (T.setTop (mkF m pc Ls (.long y :: .long x :: st))) := by
  subst hq hv; exact Go.of (fun _ r => XS.lor h hx rfl hd rfl r) g
theorem Go.lxor (h : At T m c below) (hx : p.tables.exec = Jvm.exec) {pc q : Nat} {Ls : Array Slot} {st : List Value} {x : Int64} {y : Int64} {v : Int64} (hd : decode c.code pc = .ok (.lxor, 1)) (hv : x ^^^ y = v) (hq : pc + 1 = q) (g : Go p e below Q (T.setTop (mkF m q Ls (.long v :: st)))) : Go p e below Q (T.setTop (mkF m pc Ls (.long y :: .long x :: st))) := by
  subst hq hv; exact Go.of (fun _ r => XS.lxor h hx rfl hd rfl r) g
theorem Go.lshl (h : At T m c below) (hx : p.tables.exec = Jvm.exec) {pc q : Nat} {Ls : Array Slot} {st : List Value} {x : Int64} {y : Int32} {v : Int64} (hd : decode c.code pc = .ok (.lshl, 1)) (hv : x <<< (y &&& 0x3f).toInt64 = v) (hq : pc + 1 = q) (g : Go p e below Q (T.setTop (mkF m q Ls (.long v :: st)))) : Go p e below Q (T.setTop (mkF m pc Ls (.int y :: .long x :: st))) := by
  subst hq hv; exact Go.of (fun _ r => XS.lshl h hx rfl hd rfl r) g
theorem Go.lshr (h : At T m c below) (hx : p.tables.exec = Jvm.exec) {pc q : Nat} {Ls : Array Slot} {st : List Value} {x : Int64} {y : Int32} {v : Int64} (hd : decode c.code pc = .ok (.lshr, 1)) (hv : x >>> (y &&& 0x3f).toInt64 = v) (hq : pc + 1 = q) (g : Go p e below Q (T.setTop (mkF m q Ls (.long v :: st)))) : Go p e below Q (T.setTop (mkF m pc Ls (.int y :: .long x :: st))) := by
  subst hq hv; exact Go.of (fun _ r => XS.lshr h hx rfl hd rfl r) g
theorem Go.lushr (h : At T m c below) (hx : p.tables.exec = Jvm.exec) {pc q : Nat} {Ls : Array Slot} {st : List Value} {x : Int64} {y : Int32} {v : Int64} (hd : decode c.code pc = .ok (.lushr, 1)) (hv : (x.toUInt64 >>> (y &&& 0x3f).toInt64.toUInt64).toInt64 = v) (hq : pc + 1 = q) (g : Go p e below Q (T.setTop (mkF m q Ls (.long v :: st)))) : Go p e below Q (T.setTop (mkF m pc Ls (.int y :: .long x :: st))) := by
  subst hq hv; exact Go.of (fun _ r => XS.lushr h hx rfl hd rfl r) g
theorem Go.ldiv (h : At T m c below) (hx : p.tables.exec = Jvm.exec) {pc q : Nat} {Ls : Array Slot} {st : List Value} {x : Int64} {y : Int64} {v : Int64} (hd : decode c.code pc = .ok (.ldiv, 1)) (hy : y ≠ 0) (hv : x / y = v) (hq : pc + 1 = q) (g : Go p e below Q (T.setTop (mkF m q Ls (.long v :: st)))) : Go p e below Q (T.setTop (mkF m pc Ls (.long y :: .long x :: st))) := by
  subst hq hv; exact Go.of (fun _ r => XS.ldiv h hx rfl hd rfl hy r) g
theorem Go.lrem (h : At T m c below) (hx : p.tables.exec = Jvm.exec) {pc q : Nat} {Ls : Array Slot} {st : List Value} {x : Int64} {y : Int64} {v : Int64} (hd : decode c.code pc = .ok (.lrem, 1)) (hy : y ≠ 0) (hv : x - (x / y) * y = v) (hq : pc + 1 = q) (g : Go p e below Q (T.setTop (mkF m q Ls (.long v :: st)))) : Go p e below Q (T.setTop (mkF m pc Ls (.long y :: .long x :: st))) := by
  subst hq hv; exact Go.of (fun _ r => XS.lrem h hx rfl hd rfl hy r) g
theorem Go.lcmp (h : At T m c below) (hx : p.tables.exec = Jvm.exec) {pc q : Nat} {Ls : Array Slot} {st : List Value} {x : Int64} {y : Int64} {v : Int32} (hd : decode c.code pc = .ok (.lcmp, 1)) (hv : lcmpW x y = v) (hq : pc + 1 = q) (g : Go p e below Q (T.setTop (mkF m q Ls (.int v :: st)))) : Go p e below Q (T.setTop (mkF m pc Ls (.long y :: .long x :: st))) := by
  subst hq hv; exact Go.of (fun _ r => XS.lcmp h hx rfl hd rfl r) g
theorem Go.ineg (h : At T m c below) (hx : p.tables.exec = Jvm.exec) {pc q : Nat} {Ls : Array Slot} {st : List Value} {x : Int32} {v : Int32} (hd : decode c.code pc = .ok (.ineg, 1)) (hv : -x = v) (hq : pc + 1 = q) (g : Go p e below Q (T.setTop (mkF m q Ls (.int v :: st)))) : Go p e below Q (T.setTop (mkF m pc Ls (.int x :: st))) := by
  subst hq hv; exact Go.of (fun _ r => XS.ineg h hx rfl hd rfl r) g
theorem Go.lneg (h : At T m c below) (hx : p.tables.exec = Jvm.exec) {pc q : Nat} {Ls : Array Slot} {st : List Value} {x : Int64} {v : Int64} (hd : decode c.code pc = .ok (.lneg, 1)) (hv : -x = v) (hq : pc + 1 = q) (g : Go p e below Q (T.setTop (mkF m q Ls (.long v :: st)))) : Go p e below Q (T.setTop (mkF m pc Ls (.long x :: st))) := by
  subst hq hv; exact Go.of (fun _ r => XS.lneg h hx rfl hd rfl r) g
theorem Go.i2l (h : At T m c below) (hx : p.tables.exec = Jvm.exec) {pc q : Nat} {Ls : Array Slot} {st : List Value} {x : Int32} {v : Int64} (hd : decode c.code pc = .ok (.i2l, 1)) (hv : x.toInt64 = v) (hq : pc + 1 = q) (g : Go p e below Q (T.setTop (mkF m q Ls (.long v :: st)))) : Go p e below Q (T.setTop (mkF m pc Ls (.int x :: st))) := by
  subst hq hv; exact Go.of (fun _ r => XS.i2l h hx rfl hd rfl r) g
theorem Go.l2i (h : At T m c below) (hx : p.tables.exec = Jvm.exec) {pc q : Nat} {Ls : Array Slot} {st : List Value} {x : Int64} {v : Int32} (hd : decode c.code pc = .ok (.l2i, 1)) (hv : x.toInt32 = v) (hq : pc + 1 = q) (g : Go p e below Q (T.setTop (mkF m q Ls (.int v :: st)))) : Go p e below Q (T.setTop (mkF m pc Ls (.long x :: st))) := by
  subst hq hv; exact Go.of (fun _ r => XS.l2i h hx rfl hd rfl r) g
theorem Go.i2d (h : At T m c below) (hx : p.tables.exec = Jvm.exec) {pc q : Nat} {Ls : Array Slot} {st : List Value} {x : Int32} {v : UInt64} (hd : decode c.code pc = .ok (.i2d, 1)) (hv : FP.i2d x = v) (hq : pc + 1 = q) (g : Go p e below Q (T.setTop (mkF m q Ls (.double v :: st)))) : Go p e below Q (T.setTop (mkF m pc Ls (.int x :: st))) := by
  subst hq; exact Go.of (fun _ r => XS.i2dS h hx rfl hd rfl hv r) g
theorem Go.l2d (h : At T m c below) (hx : p.tables.exec = Jvm.exec) {pc q : Nat} {Ls : Array Slot} {st : List Value} {x : Int64} {v : UInt64} (hd : decode c.code pc = .ok (.l2d, 1)) (hv : FP.l2d x = v) (hq : pc + 1 = q) (g : Go p e below Q (T.setTop (mkF m q Ls (.double v :: st)))) : Go p e below Q (T.setTop (mkF m pc Ls (.long x :: st))) := by
  subst hq; exact Go.of (fun _ r => XS.l2dS h hx rfl hd rfl hv r) g
theorem Go.d2i (h : At T m c below) (hx : p.tables.exec = Jvm.exec) {pc q : Nat} {Ls : Array Slot} {st : List Value} {x : UInt64} {v : Int32} (hd : decode c.code pc = .ok (.d2i, 1)) (hv : FP.d2i x = v) (hq : pc + 1 = q) (g : Go p e below Q (T.setTop (mkF m q Ls (.int v :: st)))) : Go p e below Q (T.setTop (mkF m pc Ls (.double x :: st))) := by
  subst hq; exact Go.of (fun _ r => XS.d2iS h hx rfl hd rfl hv r) g
theorem Go.d2l (h : At T m c below) (hx : p.tables.exec = Jvm.exec) {pc q : Nat} {Ls : Array Slot} {st : List Value} {x : UInt64} {v : Int64} (hd : decode c.code pc = .ok (.d2l, 1)) (hv : FP.d2l x = v) (hq : pc + 1 = q) (g : Go p e below Q (T.setTop (mkF m q Ls (.long v :: st)))) : Go p e below Q (T.setTop (mkF m pc Ls (.double x :: st))) := by
  subst hq; exact Go.of (fun _ r => XS.d2lS h hx rfl hd rfl hv r) g
theorem Go.dneg (h : At T m c below) (hx : p.tables.exec = Jvm.exec) {pc q : Nat} {Ls : Array Slot} {st : List Value} {x : UInt64} {v : UInt64} (hd : decode c.code pc = .ok (.dneg, 1)) (hv : FP.dneg x = v) (hq : pc + 1 = q) (g : Go p e below Q (T.setTop (mkF m q Ls (.double v :: st)))) : Go p e below Q (T.setTop (mkF m pc Ls (.double x :: st))) := by
  subst hq; exact Go.of (fun _ r => XS.dnegS h hx rfl hd rfl hv r) g
theorem Go.i2f (h : At T m c below) (hx : p.tables.exec = Jvm.exec) {pc q : Nat} {Ls : Array Slot} {st : List Value} {x : Int32} {v : UInt32} (hd : decode c.code pc = .ok (.i2f, 1)) (hv : FP.i2f x = v) (hq : pc + 1 = q) (g : Go p e below Q (T.setTop (mkF m q Ls (.float v :: st)))) : Go p e below Q (T.setTop (mkF m pc Ls (.int x :: st))) := by
  subst hq; exact Go.of (fun _ r => XS.i2fS h hx rfl hd rfl hv r) g
theorem Go.l2f (h : At T m c below) (hx : p.tables.exec = Jvm.exec) {pc q : Nat} {Ls : Array Slot} {st : List Value} {x : Int64} {v : UInt32} (hd : decode c.code pc = .ok (.l2f, 1)) (hv : FP.l2f x = v) (hq : pc + 1 = q) (g : Go p e below Q (T.setTop (mkF m q Ls (.float v :: st)))) : Go p e below Q (T.setTop (mkF m pc Ls (.long x :: st))) := by
  subst hq; exact Go.of (fun _ r => XS.l2fS h hx rfl hd rfl hv r) g
theorem Go.dadd (h : At T m c below) (hx : p.tables.exec = Jvm.exec) {pc q : Nat} {Ls : Array Slot} {st : List Value} {x y v : UInt64} (hd : decode c.code pc = .ok (.dadd, 1)) (hn : NoNaN64 (FP.dadd x y)) (hv : FP.dadd x y = v) (hq : pc + 1 = q) (g : Go p e below Q (T.setTop (mkF m q Ls (.double v :: st)))) : Go p e below Q (T.setTop (mkF m pc Ls (.double y :: .double x :: st))) := by
  subst hq; exact Go.of (fun _ r => XS.daddS h hx rfl hd rfl hn hv r) g
theorem Go.dsub (h : At T m c below) (hx : p.tables.exec = Jvm.exec) {pc q : Nat} {Ls : Array Slot} {st : List Value} {x y v : UInt64} (hd : decode c.code pc = .ok (.dsub, 1)) (hn : NoNaN64 (FP.dsub x y)) (hv : FP.dsub x y = v) (hq : pc + 1 = q) (g : Go p e below Q (T.setTop (mkF m q Ls (.double v :: st)))) : Go p e below Q (T.setTop (mkF m pc Ls (.double y :: .double x :: st))) := by
  subst hq; exact Go.of (fun _ r => XS.dsubS h hx rfl hd rfl hn hv r) g
theorem Go.dmul (h : At T m c below) (hx : p.tables.exec = Jvm.exec) {pc q : Nat} {Ls : Array Slot} {st : List Value} {x y v : UInt64} (hd : decode c.code pc = .ok (.dmul, 1)) (hn : NoNaN64 (FP.dmul x y)) (hv : FP.dmul x y = v) (hq : pc + 1 = q) (g : Go p e below Q (T.setTop (mkF m q Ls (.double v :: st)))) : Go p e below Q (T.setTop (mkF m pc Ls (.double y :: .double x :: st))) := by
  subst hq; exact Go.of (fun _ r => XS.dmulS h hx rfl hd rfl hn hv r) g
theorem Go.ddiv (h : At T m c below) (hx : p.tables.exec = Jvm.exec) {pc q : Nat} {Ls : Array Slot} {st : List Value} {x y v : UInt64} (hd : decode c.code pc = .ok (.ddiv, 1)) (hn : NoNaN64 (FP.ddiv x y)) (hv : FP.ddiv x y = v) (hq : pc + 1 = q) (g : Go p e below Q (T.setTop (mkF m q Ls (.double v :: st)))) : Go p e below Q (T.setTop (mkF m pc Ls (.double y :: .double x :: st))) := by
  subst hq; exact Go.of (fun _ r => XS.ddivS h hx rfl hd rfl hn hv r) g
theorem Go.dcmp (h : At T m c below) (hx : p.tables.exec = Jvm.exec) {pc q : Nat} {Ls : Array Slot} {st : List Value} {o : CmpOp} {x y : UInt64} {v : Int32} (hd : decode c.code pc = .ok (.dcmp o, 1)) (hv : cmpValue (FP.dcmp x y) o = v) (hq : pc + 1 = q) (g : Go p e below Q (T.setTop (mkF m q Ls (.int v :: st)))) : Go p e below Q (T.setTop (mkF m pc Ls (.double y :: .double x :: st))) := by
  subst hq; exact Go.of (fun _ r => XS.dcmpS h hx rfl hd rfl hv r) g
theorem Go.fcmp (h : At T m c below) (hx : p.tables.exec = Jvm.exec) {pc q : Nat} {Ls : Array Slot} {st : List Value} {o : CmpOp} {x y : UInt32} {v : Int32} (hd : decode c.code pc = .ok (.fcmp o, 1)) (hv : cmpValue (FP.fcmp x y) o = v) (hq : pc + 1 = q) (g : Go p e below Q (T.setTop (mkF m q Ls (.int v :: st)))) : Go p e below Q (T.setTop (mkF m pc Ls (.float y :: .float x :: st))) := by
  subst hq; exact Go.of (fun _ r => XS.fcmpS h hx rfl hd rfl hv r) g
theorem Go.dup (h : At T m c below) (hx : p.tables.exec = Jvm.exec) {pc q : Nat} {Ls : Array Slot} {st : List Value} {v : Value} (hd : decode c.code pc = .ok (.dup, 1)) (hc : v.category = 1) (hq : pc + 1 = q) (g : Go p e below Q (T.setTop (mkF m q Ls (v :: v :: st)))) : Go p e below Q (T.setTop (mkF m pc Ls (v :: st))) := by
  subst hq; exact Go.of (fun _ r => XS.dup h hx rfl hd rfl hc r) g
theorem Go.dup2 (h : At T m c below) (hx : p.tables.exec = Jvm.exec) {pc q : Nat} {Ls : Array Slot} {st : List Value} {v w : Value} (hd : decode c.code pc = .ok (.dup2, 1)) (hc : v.category = 1) (hc2 : w.category = 1) (hq : pc + 1 = q) (g : Go p e below Q (T.setTop (mkF m q Ls (v :: w :: v :: w :: st)))) : Go p e below Q (T.setTop (mkF m pc Ls (v :: w :: st))) := by
  subst hq; exact Go.of (fun _ r => Jvm.Free.XT.dup2 h hx rfl hd rfl hc hc2 r) g
theorem Go.pop (h : At T m c below) (hx : p.tables.exec = Jvm.exec) {pc q : Nat} {Ls : Array Slot} {st : List Value} {v : Value} (hd : decode c.code pc = .ok (.pop, 1)) (hc : v.category = 1) (hq : pc + 1 = q) (g : Go p e below Q (T.setTop (mkF m q Ls st))) : Go p e below Q (T.setTop (mkF m pc Ls (v :: st))) := by
  subst hq; exact Go.of (fun _ r => XS.pop h hx rfl hd rfl hc r) g
theorem step_dup2x1 {tb : Tables} [Ours tb] {target : State} {g : JFrame} (h : At T m c below) (hx : tb.exec = Jvm.exec) (hg : g.method = m) {x : Int64} {b : Value} {rest : List Value} (hd : decode c.code g.pc = .ok (.dup2_x1, 1)) (hs : g.stack = .long x :: b :: rest) (hb : b.category = 1)
    (hr : Steps tb e below (T.setTop { g with pc := g.pc + 1, stack := .long x :: b :: .long x :: rest }) target) : Steps tb e below (T.setTop g) target := by
  subst hg
  jvm_step h [h.top, hx, hd, hs, hb, Value.category]
  exact ⟨hb, hr⟩
theorem Go.dup2x1 (h : At T m c below) (hx : p.tables.exec = Jvm.exec) {pc q : Nat} {Ls : Array Slot} {st : List Value} {x : Int64} {b : Value} (hd : decode c.code pc = .ok (.dup2_x1, 1)) (hb : b.category = 1) (hq : pc + 1 = q) (g : Go p e below Q (T.setTop (mkF m q Ls (.long x :: b :: .long x :: st)))) : Go p e below Q (T.setTop (mkF m pc Ls (.long x :: b :: st))) := by
  subst hq; exact Go.of (fun _ r => step_dup2x1 h hx rfl hd rfl hb r) g
theorem Go.iinc (h : At T m c below) (hx : p.tables.exec = Jvm.exec) {pc q : Nat} {Ls : Array Slot} {st : List Value} {k : Nat} {cst : Int} {x v : Int32} {l2 : Array Slot} (hd : decode c.code pc = .ok (.iinc k cst, 3)) (hl : Ls[k]? = some (.val (.int x))) (hv : x + Int32.ofInt cst = v) (hl2 : storeLocals Ls k (.int v) = some l2) (hq : pc + 3 = q) (g : Go p e below Q (T.setTop (mkF m q l2 st))) : Go p e below Q (T.setTop (mkF m pc Ls st)) := by
  subst hq hv; exact Go.of (fun _ r => XS.iinc h hx rfl hd hl hl2 r) g
theorem Go.goto (h : At T m c below) (hx : p.tables.exec = Jvm.exec) {pc q : Nat} {Ls : Array Slot} {st : List Value} {o : Int} (hd : decode c.code pc = .ok (.goto o, 3)) (ho : 0 ≤ (pc : Int) + o) (hq : ((pc : Int) + o).toNat = q) (g : Go p e below Q (T.setTop (mkF m q Ls st))) : Go p e below Q (T.setTop (mkF m pc Ls st)) := Go.of (fun _ r => XS.goto h hx rfl rfl hd ho hq r) g
theorem Go.ifY (h : At T m c below) (hx : p.tables.exec = Jvm.exec) {pc q : Nat} {Ls : Array Slot} {st : List Value} {cd : ClassFile.Cond} {x : Int32} {o : Int} (hd : decode c.code pc = .ok (.ifCond cd o, 3)) (hc : ifCond.holds cd x = true) (ho : 0 ≤ (pc : Int) + o) (hq : ((pc : Int) + o).toNat = q) (g : Go p e below Q (T.setTop (mkF m q Ls st))) : Go p e below Q (T.setTop (mkF m pc Ls (.int x :: st))) := Go.of (fun _ r => XS.ifYes h hx rfl rfl hd rfl hc ho hq r) g
theorem Go.ifN (h : At T m c below) (hx : p.tables.exec = Jvm.exec) {pc q : Nat} {Ls : Array Slot} {st : List Value} {cd : ClassFile.Cond} {x : Int32} {o : Int} (hd : decode c.code pc = .ok (.ifCond cd o, 3)) (hc : ifCond.holds cd x = false) (hq : pc + 3 = q) (g : Go p e below Q (T.setTop (mkF m q Ls st))) : Go p e below Q (T.setTop (mkF m pc Ls (.int x :: st))) := by
  subst hq; exact Go.of (fun _ r => XS.ifNo h hx rfl hd rfl hc r) g
theorem Go.icmpY (h : At T m c below) (hx : p.tables.exec = Jvm.exec) {pc q : Nat} {Ls : Array Slot} {st : List Value} {cd : ClassFile.Cond} {x y : Int32} {o : Int} (hd : decode c.code pc = .ok (.if_icmp cd o, 3)) (hc : if_icmp.holds cd x y = true) (ho : 0 ≤ (pc : Int) + o) (hq : ((pc : Int) + o).toNat = q) (g : Go p e below Q (T.setTop (mkF m q Ls st))) : Go p e below Q (T.setTop (mkF m pc Ls (.int y :: .int x :: st))) := Go.of (fun _ r => XS.icmpYes h hx rfl rfl hd rfl hc ho hq r) g
theorem Go.icmpN (h : At T m c below) (hx : p.tables.exec = Jvm.exec) {pc q : Nat} {Ls : Array Slot} {st : List Value} {cd : ClassFile.Cond} {x y : Int32} {o : Int} (hd : decode c.code pc = .ok (.if_icmp cd o, 3)) (hc : if_icmp.holds cd x y = false) (hq : pc + 3 = q) (g : Go p e below Q (T.setTop (mkF m q Ls st))) : Go p e below Q (T.setTop (mkF m pc Ls (.int y :: .int x :: st))) := by
  subst hq; exact Go.of (fun _ r => XS.icmpNo h hx rfl hd rfl hc r) g
theorem Go.acmpY (h : At T m c below) (hx : p.tables.exec = Jvm.exec) {pc q : Nat} {Ls : Array Slot} {st : List Value} {cd : ClassFile.ACond} {a b : Addr} {o : Int} (hd : decode c.code pc = .ok (.if_acmp cd o, 3)) (hc : if_acmp.holds cd (some a) (some b) = true) (ho : 0 ≤ (pc : Int) + o) (hq : ((pc : Int) + o).toNat = q) (g : Go p e below Q (T.setTop (mkF m q Ls st))) : Go p e below Q (T.setTop (mkF m pc Ls (.ref b :: .ref a :: st))) := Go.of (fun _ r => XS.acmpYes h hx rfl rfl hd rfl hc ho hq r) g
theorem Go.acmpN (h : At T m c below) (hx : p.tables.exec = Jvm.exec) {pc q : Nat} {Ls : Array Slot} {st : List Value} {cd : ClassFile.ACond} {a b : Addr} {o : Int} (hd : decode c.code pc = .ok (.if_acmp cd o, 3)) (hc : if_acmp.holds cd (some a) (some b) = false) (hq : pc + 3 = q) (g : Go p e below Q (T.setTop (mkF m q Ls st))) : Go p e below Q (T.setTop (mkF m pc Ls (.ref b :: .ref a :: st))) := by
  subst hq; exact Go.of (fun _ r => XS.acmpNo h hx rfl hd rfl hc r) g
theorem Go.nullY (h : At T m c below) (hx : p.tables.exec = Jvm.exec) {pc q : Nat} {Ls : Array Slot} {st : List Value} {o : Int} (hd : decode c.code pc = .ok (.ifnull o, 3)) (ho : 0 ≤ (pc : Int) + o) (hq : ((pc : Int) + o).toNat = q) (g : Go p e below Q (T.setTop (mkF m q Ls st))) : Go p e below Q (T.setTop (mkF m pc Ls (.null :: st))) := Go.of (fun _ r => XS.ifnullYes h hx rfl rfl hd rfl ho hq r) g
theorem Go.nullN (h : At T m c below) (hx : p.tables.exec = Jvm.exec) {pc q : Nat} {Ls : Array Slot} {st : List Value} {o : Int} {b : Addr} (hd : decode c.code pc = .ok (.ifnull o, 3)) (hq : pc + 3 = q) (g : Go p e below Q (T.setTop (mkF m q Ls st))) : Go p e below Q (T.setTop (mkF m pc Ls (.ref b :: st))) := by
  subst hq; exact Go.of (fun _ r => XS.ifnullNo h hx rfl hd rfl r) g
theorem Go.nonnullY (h : At T m c below) (hx : p.tables.exec = Jvm.exec) {pc q : Nat} {Ls : Array Slot} {st : List Value} {o : Int} {b : Addr} (hd : decode c.code pc = .ok (.ifnonnull o, 3)) (ho : 0 ≤ (pc : Int) + o) (hq : ((pc : Int) + o).toNat = q) (g : Go p e below Q (T.setTop (mkF m q Ls st))) : Go p e below Q (T.setTop (mkF m pc Ls (.ref b :: st))) := Go.of (fun _ r => XS.ifnonnullYes h hx rfl rfl hd rfl ho hq r) g
theorem Go.nonnullN (h : At T m c below) (hx : p.tables.exec = Jvm.exec) {pc q : Nat} {Ls : Array Slot} {st : List Value} {o : Int} (hd : decode c.code pc = .ok (.ifnonnull o, 3)) (hq : pc + 3 = q) (g : Go p e below Q (T.setTop (mkF m q Ls st))) : Go p e below Q (T.setTop (mkF m pc Ls (.null :: st))) := by
  subst hq; exact Go.of (fun _ r => XS.ifnonnullNo h hx rfl hd rfl r) g
theorem Go.ldcI (X : Stand p l e R s m args below meth c T locs cells slots) (hx : p.tables.exec = Jvm.exec) {own : String} {index : Nat} {v : Int32} (hown : s.vm.findClass own = some m.cls) (w : (Jvm.Cond.constant own index v).before args s = true) {pc q : Nat} {Ls : Array Slot} {st : List Value} (hd : decode c.code pc = .ok (.ldc index, 2)) (hq : pc + 2 = q) (g : Go p e below Q (T.setTop (mkF m q Ls (.int v :: st)))) : Go p e below Q (T.setTop (mkF m pc Ls st)) := by
  subst hq; exact Go.of (fun _ r => X.ldcInt hx hown w (g := mkF m pc Ls st) rfl hd _ r) g
theorem Go.ldc2J (X : Stand p l e R s m args below meth c T locs cells slots) (hx : p.tables.exec = Jvm.exec) {own : String} {index : Nat} {v : Int64} (hown : s.vm.findClass own = some m.cls) (w : (Jvm.Cond.constantLong own index v).before args s = true) {pc q : Nat} {Ls : Array Slot} {st : List Value} (hd : decode c.code pc = .ok (.ldc2_w index, 3)) (hq : pc + 3 = q) (g : Go p e below Q (T.setTop (mkF m q Ls (.long v :: st)))) : Go p e below Q (T.setTop (mkF m pc Ls st)) := by
  subst hq; exact Go.of (fun _ r => X.ldc2Long hx hown w (g := mkF m pc Ls st) rfl hd _ r) g
theorem Go.ldc2D (X : Stand p l e R s m args below meth c T locs cells slots) (hx : p.tables.exec = Jvm.exec) {own : String} {index : Nat} {v : UInt64} (hown : s.vm.findClass own = some m.cls) (w : (Jvm.Cond.constantDouble own index v).before args s = true) {pc q : Nat} {Ls : Array Slot} {st : List Value} (hd : decode c.code pc = .ok (.ldc2_w index, 3)) (hq : pc + 3 = q) (g : Go p e below Q (T.setTop (mkF m q Ls (.double v :: st)))) : Go p e below Q (T.setTop (mkF m pc Ls st)) := by
  subst hq; exact Go.of (fun _ r => X.ldc2DoubleC hx hown w (g := mkF m pc Ls st) rfl hd _ r) g
theorem Go.ldcF (X : Stand p l e R s m args below meth c T locs cells slots) (hx : p.tables.exec = Jvm.exec) {own : String} {index : Nat} {v : UInt32} (hown : s.vm.findClass own = some m.cls) (w : (Jvm.Cond.constantFloat own index v).before args s = true) {pc q : Nat} {Ls : Array Slot} {st : List Value} (hd : decode c.code pc = .ok (.ldc index, 2)) (hq : pc + 2 = q) (g : Go p e below Q (T.setTop (mkF m q Ls (.float v :: st)))) : Go p e below Q (T.setTop (mkF m pc Ls st)) := by
  subst hq; exact Go.of (fun _ r => X.ldcFloatC hx hown w (g := mkF m pc Ls st) rfl hd _ r) g
end OwnGo

/-! own layer 3: steps that touch the heap, and calls by contract, in the same forward form -/
section OwnHeap
variable {p : Program} {l : Launch} {e : Env} {R : Room} {s : State} {m : MethodId} {args : Array Value} {below : List Frame} {meth : Method} {c : Code} {T : State} {locs : List Loc} {cells slots : Nat} {Q : Outcome → State → Prop} {Z : State} {a0 : Array Value} {h : Heap}
/-- a callee's contract at one call -/
abbrev Con (l : Launch) (Z : State) (y : MethodName) (bytes : ByteArray) (maxL : Nat) (ret : Option FieldType) (rm : Room) (as' : Array Value) (h : Heap) (Qv : Option Value → Heap → List Loc → Prop) : Prop :=
  MetFree l y (head1 [Jvm.Cond.code y bytes maxL ret] rm) (fun a U => a = as' ∧ Z.Warmed39 U.vm ∧ U.heap = h) (fun _ _ _ _ _ => True) (fun _ U o U' => ∃ v L, o = .returned v ∧ Qv v U'.heap L ∧ FrameEnd U o U' L rm.cells rm.slots)
theorem Go.new (X : Stand p l e R s m args below meth c T locs cells slots) (hx : p.tables.exec = Jvm.exec) (hZ : Z.Warmed39 s.vm) {own C : String} {index n : Nat} (hown : s.vm.findClass own = some m.cls) (w : (Jvm.Cond.classLink own index C).before a0 Z = true) (wi : (Jvm.Cond.instantiable C n).before a0 Z = true) (wz : (Jvm.Cond.initialized C).before a0 Z = true) (eT : T.heap = h)
    {pc q : Nat} {Ls : Array Slot} {st : List Value} (hd : decode c.code pc = .ok (.new index, 3)) (hc : cells + 1 ≤ R.cells) (hl : slots + n ≤ R.slots) (hq : pc + 3 = q)
    (k : ∀ (T' : State) (h' : Heap) (a : Addr), a = h.size → Stand p l e R s m args below meth c T' locs (cells + 1) (slots + n) → T'.heap = h' → Ext h h' → Exa Z h' a C → (∀ {O nm d : String} {ty : FieldType}, Laid Z a0 C O nm d → parseFieldDescriptor d = some ty → Fld Z h' a O nm d (defaultValue ty)) →
      Go p e below Q (T'.setTop (mkF m q Ls (.ref a :: st)))) : Go p e below Q (T.setTop (mkF m pc Ls st)) := by
  subst hq
  obtain ⟨T', h', X', e', E', A', D', -, st'⟩ := newO X hx hZ hown w wi wz eT (g := mkF m pc Ls st) rfl hd hc hl
  exact Go.of st' (k T' h' _ rfl X' e' E' A' D')
theorem Go.getf (X : Stand p l e R s m args below meth c T locs cells slots) (hx : p.tables.exec = Jvm.exec) (hZ : Z.Warmed39 s.vm) {own O n d : String} {index : Nat} (hown : s.vm.findClass own = some m.cls) (w : (Jvm.Cond.fieldLink own index O n d).before a0 Z = true) (eT : T.heap = h) {a : Addr} {v : Value} (F : Fld Z h a O n d v)
    {pc q : Nat} {Ls : Array Slot} {st : List Value} (hd : decode c.code pc = .ok (.getfield index, 3)) (hq : pc + 3 = q)
    (k : ∀ T' : State, Stand p l e R s m args below meth c T' locs cells slots → T'.heap = h → Go p e below Q (T'.setTop (mkF m q Ls (v :: st)))) : Go p e below Q (T.setTop (mkF m pc Ls (.ref a :: st))) := by
  subst hq
  obtain ⟨T', X', e', st'⟩ := getF X hx hZ hown (host := "") (Or.inl w) Via.refl eT F (g := mkF m pc Ls (.ref a :: st)) rfl rfl hd
  exact Go.of st' (k T' X' e')
theorem Go.gets (X : Stand p l e R s m args below meth c T locs cells slots) (hx : p.tables.exec = Jvm.exec) (hZ : Z.Warmed39 s.vm) {own O n d : String} {index : Nat} (hown : s.vm.findClass own = some m.cls) (w : (Jvm.Cond.fieldLink own index O n d).before a0 Z = true) (eT : T.heap = h) {v : Value} (F : Sta Z h O n d v)
    {pc q : Nat} {Ls : Array Slot} {st : List Value} (hd : decode c.code pc = .ok (.getstatic index, 3)) (hq : pc + 3 = q)
    (k : ∀ T' : State, Stand p l e R s m args below meth c T' locs cells slots → T'.heap = h → Go p e below Q (T'.setTop (mkF m q Ls (v :: st)))) : Go p e below Q (T.setTop (mkF m pc Ls st)) := by
  subst hq
  obtain ⟨T', X', e', st'⟩ := getS X hx hZ hown (host := "") w Via.refl eT F (g := mkF m pc Ls st) rfl hd
  exact Go.of st' (k T' X' e')
theorem Go.putf (X : Stand p l e R s m args below meth c T locs cells slots) (hx : p.tables.exec = Jvm.exec) (hZ : Z.Warmed39 s.vm) {own O n d C : String} {index kk : Nat} {ty : FieldType} (hown : s.vm.findClass own = some m.cls) (w : (Jvm.Cond.fieldLink own index O n d).before a0 Z = true) (eT : T.heap = h) {a : Addr} {v old : Value} (F : Fld Z h a O n d old) (E : Exa Z h a C)
    (L : (Jvm.Cond.lays C O n d).before a0 Z = true ∨ ((Jvm.Cond.laysFinal C O n d).before a0 Z = true ∧ own = O ∧ meth.name = "<init>")) (wi : (Jvm.Cond.instantiable C kk).before a0 Z = true) (hty : parseFieldDescriptor d = some ty) (hn : narrow ty v = v) (hf : fits ty v = true)
    {pc q : Nat} {Ls : Array Slot} {st : List Value} (hd : decode c.code pc = .ok (.putfield index, 3)) (hq : pc + 3 = q)
    (k : ∀ (T' : State) (h' : Heap), Stand p l e R s m args below meth c T' (locs ++ [⟨a, Jvm.RoadKit.slotOf Z O n d⟩]) cells slots → T'.heap = h' → Wr h h' a (Jvm.RoadKit.slotOf Z O n d) v → Go p e below Q (T'.setTop (mkF m q Ls st))) : Go p e below Q (T.setTop (mkF m pc Ls (v :: .ref a :: st))) := by
  subst hq
  obtain ⟨T', h', X', e', W', st'⟩ := putF X hx hZ hown (host := "") (Or.inl w) Via.refl eT F E L wi hty hn hf (g := mkF m pc Ls (v :: .ref a :: st)) rfl rfl hd
  exact Go.of st' (k T' h' X' e' W')
theorem Go.init (X : Stand p l e R s m args below meth c T locs cells slots) (hx : p.tables.exec = Jvm.exec) (hZ : Z.Warmed39 s.vm) {own : String} {index : Nat} (hown : s.vm.findClass own = some m.cls) (w1 : (Jvm.Cond.methodLink own index Lib.objectInit).before a0 Z = true) (w2 : (Jvm.Cond.instanceMethod Lib.objectInit).before a0 Z = true) (w3 : (Jvm.Cond.code Lib.objectInit ⟨#[0xb1]⟩ 1 none).before a0 Z = true) (eT : T.heap = h)
    {pc q : Nat} {Ls : Array Slot} {st : List Value} {a : Addr} {W : Nat} (hd : decode c.code pc = .ok (.invokespecial index, 3)) (hsz : Ls.size = c.maxLocals) (hf : 1 ≤ R.frames) (hW : (st.map fun v => v.category).sum ≤ W) (hl : W + 12 ≤ R.locals) (hq : pc + 3 = q)
    (k : ∀ T' : State, Stand p l e R s m args below meth c T' locs cells slots → T'.heap = h → Go p e below Q (T'.setTop (mkF m q Ls st))) : Go p e below Q (T.setTop (mkF m pc Ls (.ref a :: st))) := by
  subst hq
  obtain ⟨T', X', e', st'⟩ := initO X hx hZ hown w1 w2 w3 eT (g := mkF m pc Ls (.ref a :: st)) rfl hsz rfl hd hf (W := W) (by show 2 * 0 + _ ≤ _; omega) hl
  exact Go.of st' (k T' X' e')
theorem Go.special (X : Stand p l e R s m args below meth c T locs cells slots) (hx : p.tables.exec = Jvm.exec) (hZ : Z.Warmed39 s.vm) {own : String} {index : Nat} {y : MethodName} (hy1 : y.name = "<init>") (hown : s.vm.findClass own = some m.cls) (w1 : (Jvm.Cond.methodLink own index y).before a0 Z = true) (w2 : (Jvm.Cond.instanceMethod y).before a0 Z = true)
    {bytes : ByteArray} {maxL : Nat} (w3 : (Jvm.Cond.code y bytes maxL none).before a0 Z = true) (wz : (Jvm.Cond.initialized y.cls).before a0 Z = true) (hy : y.cls ≠ "java/lang/invoke/MethodHandle" ∧ y.cls ≠ "java/lang/invoke/VarHandle")
    {rm : Room} {as' : Array Value} {Qv : Option Value → Heap → List Loc → Prop} (hM : Con l Z y bytes maxL none rm as' h Qv) (eT : T.heap = h) {pc q : Nat} {Ls : Array Slot} {st : List Value} {a : Addr} {argsL rest : List Value} {W : Nat} (hd : decode c.code pc = .ok (.invokespecial index, 3))
    (hst : st = argsL.reverse ++ .ref a :: rest) (has : as' = (.ref a :: argsL).toArray) (hlen : ∀ sig, parseMethodDescriptor y.desc = some sig → argsL.length = sig.parameters.length) (hsz : Ls.size = c.maxLocals) (hW : (rest.map fun v => v.category).sum ≤ W)
    (hf : rm.frames + 1 ≤ R.frames) (hl : W + (maxL + 11) + rm.locals ≤ R.locals) (hc : cells + rm.cells ≤ R.cells) (hs : slots + rm.slots ≤ R.slots) (hq : pc + 3 = q)
    (k : ∀ (T' : State) (L : List Loc) (v : Option Value), Stand p l e R s m args below meth c T' (locs ++ L) (cells + rm.cells) (slots + rm.slots) → Qv v T'.heap L → Go p e below Q (T'.setTop (mkF m q Ls (v.toList ++ rest)))) : Go p e below Q (T.setTop (mkF m pc Ls st)) := by
  subst hq hst has
  obtain ⟨v, vm₁, ⟨T', L', k', n'⟩, -, X', ⟨Lc, hQ, l1, y1, z1⟩, st'⟩ := X.specialBack hx (y := y) hy1 hown (mvT hZ w1) (mvT hZ w2) (mvT hZ w3) hy (backOf (W := W) hM hZ w3 wz hf hl) (g := mkF m pc Ls (argsL.reverse ++ .ref a :: rest)) rfl hsz (Steps.refl _) (a := a) (argsL := argsL) (rest := rest) hlen rfl (by show 2 * 0 + _ ≤ _; omega) hd (fun _ _ => ⟨rfl, eT, hc, hs⟩)
  dsimp only [Pt.U, Pt.locs, Pt.cells, Pt.slots] at X' l1 y1 z1 st' hQ
  subst l1 y1 z1
  exact Go.tr st' (k T' Lc v X' hQ)
theorem Go.virtual (X : Stand p l e R s m args below meth c T locs cells slots) (hx : p.tables.exec = Jvm.exec) (hZ : Z.Warmed39 s.vm) {own C : String} {index : Nat} {y : MethodName} (hown : s.vm.findClass own = some m.cls) (w1 : (Jvm.Cond.methodLink own index y).before a0 Z = true) (w2 : (Jvm.Cond.declares y).before a0 Z = true) (w3 : (Jvm.Cond.selects C y y).before a0 Z = true) (w4 : (Jvm.Cond.instanceMethod y).before a0 Z = true)
    {bytes : ByteArray} {maxL : Nat} {ret : Option FieldType} (w5 : (Jvm.Cond.code y bytes maxL ret).before a0 Z = true) (wz : (Jvm.Cond.initialized y.cls).before a0 Z = true) (hy : y.cls ≠ "java/lang/invoke/MethodHandle" ∧ y.cls ≠ "java/lang/invoke/VarHandle")
    {rm : Room} {as' : Array Value} {Qv : Option Value → Heap → List Loc → Prop} (hM : Con l Z y bytes maxL ret rm as' h Qv) (eT : T.heap = h) {a : Addr} (E : Exa Z h a C) {pc q : Nat} {Ls : Array Slot} {st : List Value} {argsL rest : List Value} {W : Nat} (hd : decode c.code pc = .ok (.invokevirtual index, 3))
    (hst : st = argsL.reverse ++ .ref a :: rest) (has : as' = (.ref a :: argsL).toArray) (hlen : ∀ sig, parseMethodDescriptor y.desc = some sig → argsL.length = sig.parameters.length) (hsz : Ls.size = c.maxLocals) (hW : (rest.map fun v => v.category).sum ≤ W)
    (hf : rm.frames + 1 ≤ R.frames) (hl : W + (maxL + 11) + rm.locals ≤ R.locals) (hc : cells + rm.cells ≤ R.cells) (hs : slots + rm.slots ≤ R.slots) (hq : pc + 3 = q)
    (k : ∀ (T' : State) (L : List Loc) (v : Option Value), Stand p l e R s m args below meth c T' (locs ++ L) (cells + rm.cells) (slots + rm.slots) → Qv v T'.heap L → Go p e below Q (T'.setTop (mkF m q Ls (v.toList ++ rest)))) : Go p e below Q (T.setTop (mkF m pc Ls st)) := by
  subst hq hst has
  obtain ⟨cq, kq, qa, -, qc⟩ := isOf hZ eT E
  obtain ⟨v, vm₁, ⟨T', L', k', n'⟩, -, X', ⟨Lc, hQ, l1, y1, z1⟩, st'⟩ := X.virtualBack hx (y := y) (z := y) hown (mvT hZ w1) (mvT hZ w2) (notFace_of_selects (args := #[]) (mvT hZ w3)) (mvT hZ w3) (mvT hZ w4) hy (backOf (W := W) hM hZ w5 wz hf hl) qa qc (g := mkF m pc Ls (argsL.reverse ++ .ref a :: rest)) rfl hsz (Steps.refl _) (argsL := argsL) (rest := rest) hlen rfl (by show 2 * 0 + _ ≤ _; omega) hd (fun _ _ => ⟨rfl, eT, hc, hs⟩)
  dsimp only [Pt.U, Pt.locs, Pt.cells, Pt.slots] at X' l1 y1 z1 st' hQ
  subst l1 y1 z1
  exact Go.tr st' (k T' Lc v X' hQ)
theorem Go.static (X : Stand p l e R s m args below meth c T locs cells slots) (hx : p.tables.exec = Jvm.exec) (hZ : Z.Warmed39 s.vm) {own : String} {index : Nat} {y : MethodName} (hown : s.vm.findClass own = some m.cls) (w1 : (Jvm.Cond.methodLink own index y).before a0 Z = true) (w2 : (Jvm.Cond.static y).before a0 Z = true)
    {bytes : ByteArray} {maxL : Nat} {ret : Option FieldType} (w3 : (Jvm.Cond.code y bytes maxL ret).before a0 Z = true) (wz : (Jvm.Cond.initialized y.cls).before a0 Z = true) (hy : y.cls ≠ "java/lang/invoke/MethodHandle" ∧ y.cls ≠ "java/lang/invoke/VarHandle")
    {rm : Room} {as' : Array Value} {Qv : Option Value → Heap → List Loc → Prop} (hM : Con l Z y bytes maxL ret rm as' h Qv) (eT : T.heap = h) {pc q : Nat} {Ls : Array Slot} {st : List Value} {argsL rest : List Value} {W : Nat} (hd : decode c.code pc = .ok (.invokestatic index, 3))
    (hst : st = argsL.reverse ++ rest) (has : as' = argsL.toArray) (hlen : ∀ sig, parseMethodDescriptor y.desc = some sig → argsL.length = sig.parameters.length) (hsz : Ls.size = c.maxLocals) (hW : (rest.map fun v => v.category).sum ≤ W)
    (hf : rm.frames + 1 ≤ R.frames) (hl : W + (maxL + 11) + rm.locals ≤ R.locals) (hc : cells + rm.cells ≤ R.cells) (hs : slots + rm.slots ≤ R.slots) (hq : pc + 3 = q)
    (k : ∀ (T' : State) (L : List Loc) (v : Option Value), Stand p l e R s m args below meth c T' (locs ++ L) (cells + rm.cells) (slots + rm.slots) → Qv v T'.heap L → Go p e below Q (T'.setTop (mkF m q Ls (v.toList ++ rest)))) : Go p e below Q (T.setTop (mkF m pc Ls st)) := by
  subst hq hst has
  obtain ⟨v, vm₁, ⟨T', L', k', n'⟩, -, X', ⟨Lc, hQ, l1, y1, z1⟩, st'⟩ := Jvm.LawKit.callS X hx (y := y) hown (mvT hZ w1) (mvT hZ w2) (mvT hZ wz) (mvT hZ w3) hy (backOf (W := W) hM hZ w3 wz hf hl) (g := mkF m pc Ls (argsL.reverse ++ rest)) rfl hsz (argsL := argsL) (rest := rest) hlen rfl (by show 2 * 0 + _ ≤ _; omega) hd (fun _ _ => ⟨rfl, eT, hc, hs⟩)
  dsimp only [Pt.U, Pt.locs, Pt.cells, Pt.slots] at X' l1 y1 z1 st' hQ
  subst l1 y1 z1
  exact Go.of st' (k T' Lc v X' hQ)
/-- a static call that a payer of the library answers, and that leaves all as it was -/
theorem Go.nat (X : Stand p l e R s m args below meth c T locs cells slots) (hx : p.tables.exec = Jvm.exec) (hZ : Z.Warmed39 s.vm) {own : String} {index : Nat} {y : MethodName} (hown : s.vm.findClass own = some m.cls) (w1 : (Jvm.Cond.methodLink own index y).before a0 Z = true) (w2 : (Jvm.Cond.static y).before a0 Z = true) (w3 : (Jvm.Cond.initialized y.cls).before a0 Z = true)
    {by0 : ByteArray} {ml : Nat} {rt : Option FieldType} (w4 : (Jvm.Cond.code y by0 ml rt).before a0 Z = true) (hy : y.cls ≠ "java/lang/invoke/MethodHandle" ∧ y.cls ≠ "java/lang/invoke/VarHandle") (eT : T.heap = h) {W : Nat} {F : Array Value → Prop} {val : Value}
    (hK : (Jvm.Cond.code y by0 ml rt).before args s = true → Back l R p e below s args y 3 W (fun A a' => A.cells ≤ R.cells ∧ A.slots ≤ R.slots ∧ F a') (fun A _ v B => v = some val ∧ B = A))
    {pc q : Nat} {Ls : Array Slot} {st : List Value} {argsL rest : List Value} (hd : decode c.code pc = .ok (.invokestatic index, 3)) (hst : st = argsL.reverse ++ rest) (hlen : ∀ sig, parseMethodDescriptor y.desc = some sig → argsL.length = sig.parameters.length) (hsz : Ls.size = c.maxLocals) (hW : (rest.map fun v => v.category).sum ≤ W)
    (hc : cells ≤ R.cells) (hs : slots ≤ R.slots) (hF : F argsL.toArray) (hq : pc + 3 = q)
    (k : ∀ T' : State, Stand p l e R s m args below meth c T' locs cells slots → T'.heap = h → Go p e below Q (T'.setTop (mkF m q Ls (val :: rest)))) : Go p e below Q (T.setTop (mkF m pc Ls st)) := by
  subst hq hst
  obtain ⟨T', X', e', st'⟩ := natS X hx hZ hown w1 w2 w3 w4 hy eT hK (g := mkF m pc Ls (argsL.reverse ++ rest)) rfl hsz hlen rfl (by show 2 * 0 + _ ≤ _; omega) hd hc hs hF rfl
  exact Go.of st' (k T' X' e')
/-! words of the sheet by their place -/
theorem word {ts : List Jvm.Cond} (hw : ∀ d ∈ ts, d.before a0 Z = true) {d : Jvm.Cond} (i : Nat) (hi : ts[i]? = some d) : d.before a0 Z = true := hw _ (List.mem_of_getElem? hi)
end OwnHeap

theorem pd0 : parseMethodDescriptor "(JJ)V" = some ⟨[.long, .long], none⟩ := by decide +kernel
theorem pd1 : parseMethodDescriptor "()D" = some ⟨[], some .double⟩ := by decide +kernel
theorem pd2 : parseMethodDescriptor "(J)V" = some ⟨[.long], none⟩ := by decide +kernel
theorem pd3 : parseMethodDescriptor "(D)Z" = some ⟨[.double], some .boolean⟩ := by decide +kernel

section OwnLaw
open Jvm.FP Jvm.FP.Core Jvm.Free.Fl
def own_ush (x : Int64) (k : Int32) : Int64 := (Int64.toUInt64 x >>> Int64.toUInt64 (Int32.toInt64 (k &&& 0x3f))).toInt64
/-- the field step behind the constructor -/
def own_st (i n : Int64) : Int64 := i <<< Int32.toInt64 ((36 : Int32) &&& 0x3f) + n
def own_z1 (s : Int64) : Int64 := s * (-7046029254386353131 : Int64)
def own_z2 (z : Int64) : Int64 := (z ^^^ own_ush z 30) * (-4658895280553007687 : Int64)
def own_z3 (z : Int64) : Int64 := (z ^^^ own_ush z 27) * (-7723592293110705685 : Int64)
def own_z4 (z : Int64) : Int64 := z ^^^ own_ush z 31
def own_bits (s : Int64) : Int64 := own_ush (own_z4 (own_z3 (own_z2 (own_z1 s)))) 11
/-- what nextDouble gives, by the step that it has counted to -/
def own_nd (s : Int64) : UInt64 := FP.dmul (FP.l2d (own_bits s)) 4368491638549381120
/-- a double of the grid -/
def own_on (x : UInt64) : Prop := ∃ n : Int, DFin x ∧ Zv x = n * P2 1021 ∧ 0 ≤ n ∧ n < 9007199254740992
theorem own_ush11 (x : Int64) : 0 ≤ (own_ush x 11).toInt ∧ (own_ush x 11).toInt < 9007199254740992 := by
  have e := c_lushr x 11 11 (by decide) (by decide)
  have e' : (own_ush x 11).toInt = (x.toInt % 18446744073709551616) / (2 ^ 11 : Nat) := e
  omega
theorem own_c53 : DFin 4368491638549381120 ∧ Zv 4368491638549381120 = 1 * P2 1021 := ⟨(fin_bits _).mpr (by decide), by decide +kernel⟩
theorem own_c253 : DFin 4845873199050653696 ∧ Zv 4845873199050653696 = P2 53 * P2 1074 := ⟨(fin_bits _).mpr (by decide), by decide +kernel⟩
theorem own_nd_in (s : Int64) : DFin (own_nd s) ∧ Zv (own_nd s) = (own_bits s).toInt * P2 1021 := by
  obtain ⟨b1, b2⟩ := own_ush11 (own_z4 (own_z3 (own_z2 (own_z1 s))))
  have z : Zv (FP.l2d (own_bits s)) = (own_bits s).toInt * P2 1074 := l2d_eq (by unfold own_bits; omega)
  exact mul_eq (l2d_dfin _) own_c53.1 (rep_mk _ _ (by unfold own_bits; omega) (by decide)) (by rw [z, own_c53.2, Int.one_mul]; ((try generalize P2 1074 = U1); (try generalize P2 1073 = U2); (try generalize P2 1072 = U3); (try generalize P2 (1074 - e) = U4); (try generalize P2 e = U5); (try generalize P2 1021 = U6); (try generalize P2 53 = U7); ac_rfl))
theorem own_nd_nn {s : Int64} {x : UInt64} (h : FP.l2d (own_bits s) = x) : NoNaN64 (FP.dmul x 4368491638549381120) := by
  subst h; exact (nn_of (own_nd_in s).1)
theorem own_on_nd {s : Int64} {x : UInt64} (h : own_nd s = x) : own_on x := by
  subst h
  obtain ⟨b1, b2⟩ := own_ush11 (own_z4 (own_z3 (own_z2 (own_z1 s))))
  exact ⟨_, (own_nd_in s).1, (own_nd_in s).2, b1, b2⟩
theorem own_g1 {x : UInt64} {n : Int} (hf : DFin x) (hz : Zv x = n * P2 1021) (h0 : 0 ≤ n) : ¬ (0 < cmpValue (FP.dcmp 0 x) .g) := by
  have := Int.mul_nonneg h0 (Int.le_of_lt (P2_pos 1021))
  rcases Int.lt_or_eq_of_le this with z | z
  · rw [cmp_lt zero_fin hf _ (by rw [zero_z, hz]; exact z)]; decide
  · rw [cmp_eq zero_fin hf _ (by rw [zero_z, hz]; exact z)]; decide
theorem own_p53 : P2 1074 = P2 53 * P2 1021 := by rw [← P2_add]
theorem own_g2 {x : UInt64} {n : Int} (hf : DFin x) (hz : Zv x = n * P2 1021) (h1 : n < 9007199254740992) : cmpValue (FP.dcmp x 4607182418800017408) .g < 0 := by
  rw [cmp_lt hf one_fin _ (by rw [one_z, hz, Int.one_mul, own_p53]; exact Int.mul_lt_mul_of_pos_right h1 (P2_pos 1021))]; decide
theorem own_g3 {x : UInt64} {n : Int} (hf : DFin x) (hz : Zv x = n * P2 1021) (h0 : 0 ≤ n) (h1 : n < 9007199254740992) : DFin (FP.dmul x 4845873199050653696) ∧ Zv (FP.dmul x 4845873199050653696) = n * P2 1074 := by
  refine mul_eq hf own_c253.1 (rep_int n (by omega)) ?_
  have e : n * P2 1021 * (P2 53 * P2 1074) = n * (P2 53 * P2 1021) * P2 1074 := by ((try generalize P2 1074 = U1); (try generalize P2 1073 = U2); (try generalize P2 1072 = U3); (try generalize P2 (1074 - e) = U4); (try generalize P2 e = U5); (try generalize P2 1021 = U6); (try generalize P2 53 = U7); ac_rfl)
  rw [hz, own_c253.2, e, ← own_p53]
theorem own_g4 {x : UInt64} {v : Int64} {n : Int} (h : FP.d2l x = v) (hf : DFin x) (hz : Zv x = n * P2 1074) (h0 : 0 ≤ n) (h1 : n < 9007199254740992) : v.toInt = n := by
  rw [← h]; exact d2l_eq hf hz (by omega) (by omega)
theorem own_g5 {x y : UInt64} {v : Int64} {n : Int} (h : FP.l2d v = y) (hv : v.toInt = n) (hf : DFin x) (hz : Zv x = n * P2 1074) (h0 : 0 ≤ n) (h1 : n < 9007199254740992) : cmpValue (FP.dcmp y x) .l = 0 := by
  subst h; exact cmp_eq (l2d_dfin v) hf _ (by rw [hz, l2d_eq (by omega), hv])
theorem own_g6 {v : Int64} {n : Int} (hv : v.toInt = n) (h0 : 0 ≤ n) : ¬ v < 0 := fun z => by
  have := Int64.lt_iff_toInt_lt.mp z; have o : (0 : Int64).toInt = 0 := rfl; omega
theorem own_g7 {v : Int64} {n : Int} (hv : v.toInt = n) (h1 : n < 9007199254740992) : v < 9007199254740992 := by
  rw [Int64.lt_iff_toInt_lt]; have o : (9007199254740992 : Int64).toInt = 9007199254740992 := rfl; omega
theorem own_eq {x y : UInt64} {s t : Int64} (hx : own_nd s = x) (hy : own_nd t = y) (h : s = t) : cmpValue (FP.dcmp x y) .l = 0 := by
  subst h hx hy; exact cmp_eq (own_nd_in s).1 (own_nd_in s).1 _ rfl
theorem own_step {i n u : Int64} (h : n + 1 = u) : own_st i n + 1 + 1 = own_st i u + 1 := by
  subst h; unfold own_st; rw [← Int64.add_assoc]
theorem own_const {x : UInt64} (hx : own_nd (own_st 0 0 + 1) = x) : cmpValue (FP.dcmp x 4606131375998723001) .l = 0 := by
  subst hx; decide +kernel
end OwnLaw

theorem d1_0 : decode prog_52_method_2_code 0 = .ok (.aload_n 0, 1) := by decide +kernel
theorem d1_1 : decode prog_52_method_2_code 1 = .ok (.invokespecial 7, 3) := by decide +kernel
theorem d1_4 : decode prog_52_method_2_code 4 = .ok (.aload_n 0, 1) := by decide +kernel
theorem d1_5 : decode prog_52_method_2_code 5 = .ok (.lload_n 1, 1) := by decide +kernel
theorem d1_6 : decode prog_52_method_2_code 6 = .ok (.bipush 36, 2) := by decide +kernel
theorem d1_8 : decode prog_52_method_2_code 8 = .ok (.lshl, 1) := by decide +kernel
theorem d1_9 : decode prog_52_method_2_code 9 = .ok (.lload_n 3, 1) := by decide +kernel
theorem d1_10 : decode prog_52_method_2_code 10 = .ok (.ladd, 1) := by decide +kernel
theorem d1_11 : decode prog_52_method_2_code 11 = .ok (.putfield 12, 3) := by decide +kernel
theorem d1_14 : decode prog_52_method_2_code 14 = .ok (.return_, 1) := by decide +kernel
set_option maxRecDepth 65536 in
set_option maxHeartbeats 40000000 in
theorem rm_init2 (l : Launch) (Z : State) (a0 : Array Value) (hw : ∀ d ∈ tables_1, d.before a0 Z = true) (a1 : Addr) (q2 : Int64) (q3 : Int64) (o1 : Value) (h0 : Heap) (n0 : Nat) (Z0 : n0 ≤ h0.size) (E1 : Exa Z h0 a1 "com/example/iridescence/iridescence/RandomSequence") (F1 : Fld Z h0 a1 "com/example/iridescence/iridescence/RandomSequence" "step" "J" o1) (g1 : n0 ≤ a1) :
    Con l Z (⟨"com/example/iridescence/iridescence/RandomSequence", "<init>", "(JJ)V"⟩ : MethodName) prog_52_method_2_code 5 none ({ frames := 1, cells := 0, slots := 0, locals := 12 } : Room) #[(.ref a1), (.long q2), (.long q3)] h0 (fun v h L => v = none ∧ Fr n0 L ∧ Keep h0 h [a1] ∧ Exa Z h a1 "com/example/iridescence/iridescence/RandomSequence" ∧ Fld Z h a1 "com/example/iridescence/iridescence/RandomSequence" "step" "J" (.long (own_st q2 q3))) := by
  refine enter (l := l) (Z := Z) (y := (⟨"com/example/iridescence/iridescence/RandomSequence", "<init>", "(JJ)V"⟩ : MethodName)) (bytes := prog_52_method_2_code) (maxL := 5) (ret := none) (ws := []) (rm := ({ frames := 1, cells := 0, slots := 0, locals := 12 } : Room)) (as' := #[(.ref a1), (.long q2), (.long q3)]) (h0 := h0) (Qv := (fun v h L => v = none ∧ Fr n0 L ∧ Keep h0 h [a1] ∧ Exa Z h a1 "com/example/iridescence/iridescence/RandomSequence" ∧ Fld Z h a1 "com/example/iridescence/iridescence/RandomSequence" "step" "J" (.long (own_st q2 q3)))) (kc := 0) (ks := 0) (by first | exact plainFor_of_name (by first | (simp [plainName, overriddenIn]; done) | decide +kernel) | decide +kernel) (Ls := #[.val (.ref a1), .val (.long q2), .second, .val (.long q3), .second]) (fun m => by first | (simp [entryFrame, mkF, argsToLocals, Value.category]; done) | rfl) ?_
  intro p e s m below meth c s₁ hx hby hml hown hnm hret hlk hZ X0 e0
  have hown : s.vm.findClass "com/example/iridescence/iridescence/RandomSequence" = some m.cls := hown
  have hml : c.maxLocals = 5 := hml
  have N0 := Fr.nil n0
  refine Go.aloadN X0.here hx (Jvm.hb hby d1_0) rfl rfl (q := 1) rfl ?_
  refine Go.init X0 hx hZ hown (word hw 8 rfl) (word hw 9 rfl) (word hw 10 rfl) e0 (Jvm.hb hby d1_1) (by rw [hml]; rfl) (by decide) (W := 0) (Nat.le_of_eq rfl) (by decide) (q := 4) rfl ?_
  intro T101 X101 e101
  refine Go.aloadN X101.here hx (Jvm.hb hby d1_4) rfl rfl (q := 5) rfl ?_
  refine Go.lloadN X101.here hx (Jvm.hb hby d1_5) rfl (q := 6) rfl ?_
  refine Go.bipush X101.here hx (Jvm.hb hby d1_6) (v := (36 : Int32)) rfl (q := 8) rfl ?_
  obtain ⟨u8, hu8⟩ : ∃ zq, q2 <<< Int32.toInt64 ((36 : Int32) &&& 0x3f) = zq := ⟨_, rfl⟩
  refine Go.lshl X101.here hx (Jvm.hb hby d1_8) hu8 (q := 9) rfl ?_
  refine Go.lloadN X101.here hx (Jvm.hb hby d1_9) rfl (q := 10) rfl ?_
  obtain ⟨u10, hu10⟩ : ∃ zq, u8 + q3 = zq := ⟨_, rfl⟩
  refine Go.ladd X101.here hx (Jvm.hb hby d1_10) hu10 (q := 11) rfl ?_
  refine Go.putf X101 hx hZ hown (word hw 11 rfl) e101 F1 E1 (Or.inl (word hw 12 rfl)) (word hw 3 rfl) (ty := .long) (by decide) rfl rfl (Jvm.hb hby d1_11) (q := 14) rfl ?_
  intro T102 h102 X102 e102 W102
  have N102 := Fr.snoc X102 N0 g1
  have F102 := F1.same W102
  subst hu10 hu8
  have k103 : Keep h0 h102 [a1] := (Keep.refl h0 [a1]).wr W102 (Or.inl (List.mem_of_getElem? (i := 0) rfl))
  have f104 := E1.wr W102
  refine Go.retV X102 hx hret hlk (Jvm.hb hby d1_14) (by decide) (by decide) ?_
  rw [e102]
  exact ⟨rfl, N102, k103, f104, F102⟩
theorem d4_0 : decode prog_52_method_1_code 0 = .ok (.aload_n 0, 1) := by decide +kernel
theorem d4_1 : decode prog_52_method_1_code 1 = .ok (.lload_n 1, 1) := by decide +kernel
theorem d4_2 : decode prog_52_method_1_code 2 = .ok (.lconst 0, 1) := by decide +kernel
theorem d4_3 : decode prog_52_method_1_code 3 = .ok (.invokespecial 1, 3) := by decide +kernel
theorem d4_6 : decode prog_52_method_1_code 6 = .ok (.return_, 1) := by decide +kernel
set_option maxRecDepth 65536 in
set_option maxHeartbeats 40000000 in
theorem rm_init1 (l : Launch) (Z : State) (a0 : Array Value) (hw : ∀ d ∈ tables_1, d.before a0 Z = true) (a1 : Addr) (q2 : Int64) (o1 : Value) (h0 : Heap) (n0 : Nat) (Z0 : n0 ≤ h0.size) (E1 : Exa Z h0 a1 "com/example/iridescence/iridescence/RandomSequence") (F1 : Fld Z h0 a1 "com/example/iridescence/iridescence/RandomSequence" "step" "J" o1) (g1 : n0 ≤ a1) :
    Con l Z (⟨"com/example/iridescence/iridescence/RandomSequence", "<init>", "(J)V"⟩ : MethodName) prog_52_method_1_code 3 none ({ frames := 2, cells := 0, slots := 0, locals := 28 } : Room) #[(.ref a1), (.long q2)] h0 (fun v h L => v = none ∧ Fr n0 L ∧ Keep h0 h [a1] ∧ Exa Z h a1 "com/example/iridescence/iridescence/RandomSequence" ∧ Fld Z h a1 "com/example/iridescence/iridescence/RandomSequence" "step" "J" (.long (own_st q2 (0 : Int64)))) := by
  refine enter (l := l) (Z := Z) (y := (⟨"com/example/iridescence/iridescence/RandomSequence", "<init>", "(J)V"⟩ : MethodName)) (bytes := prog_52_method_1_code) (maxL := 3) (ret := none) (ws := []) (rm := ({ frames := 2, cells := 0, slots := 0, locals := 28 } : Room)) (as' := #[(.ref a1), (.long q2)]) (h0 := h0) (Qv := (fun v h L => v = none ∧ Fr n0 L ∧ Keep h0 h [a1] ∧ Exa Z h a1 "com/example/iridescence/iridescence/RandomSequence" ∧ Fld Z h a1 "com/example/iridescence/iridescence/RandomSequence" "step" "J" (.long (own_st q2 (0 : Int64))))) (kc := 0) (ks := 0) (by first | exact plainFor_of_name (by first | (simp [plainName, overriddenIn]; done) | decide +kernel) | decide +kernel) (Ls := #[.val (.ref a1), .val (.long q2), .second]) (fun m => by first | (simp [entryFrame, mkF, argsToLocals, Value.category]; done) | rfl) ?_
  intro p e s m below meth c s₁ hx hby hml hown hnm hret hlk hZ X0 e0
  have hown : s.vm.findClass "com/example/iridescence/iridescence/RandomSequence" = some m.cls := hown
  have hml : c.maxLocals = 3 := hml
  have N0 := Fr.nil n0
  refine Go.aloadN X0.here hx (Jvm.hb hby d4_0) rfl rfl (q := 1) rfl ?_
  refine Go.lloadN X0.here hx (Jvm.hb hby d4_1) rfl (q := 2) rfl ?_
  refine Go.lconst X0.here hx (Jvm.hb hby d4_2) (v := (0 : Int64)) rfl (q := 3) rfl ?_
  refine Go.special X0 hx hZ (y := (⟨"com/example/iridescence/iridescence/RandomSequence", "<init>", "(JJ)V"⟩ : MethodName)) rfl hown (word hw 25 rfl) (word hw 6 rfl) (word hw 7 rfl) (word hw 4 rfl) (by decide) (rm_init2 l Z a0 hw a1 q2 (0 : Int64) o1 h0 n0 Z0 E1 F1 g1) e0 (a := a1) (argsL := [(.long q2), (.long (0 : Int64))]) (rest := []) (W := 0) (Jvm.hb hby d4_3) rfl rfl (lenOf (pd0) rfl) (by rw [hml]; rfl) (Nat.le_of_eq rfl) (by decide) (by decide) (by decide) (by decide) (q := 6) rfl ?_
  intro T101 L101 w101 X101 hQ101
  obtain ⟨rfl, M101, K101, P101_0, P101_1⟩ := hQ101
  have N101 := Fr.app N0 M101
  show Go p e below _ (T101.setTop (mkF m 6 #[.val (.ref a1), .val (.long q2), .second] []))
  have k102 : Keep h0 T101.heap [a1] := (Keep.refl h0 [a1]).trans K101 (allS (Or.inl (List.mem_of_getElem? (i := 0) rfl)) all0)
  refine Go.retV X101 hx hret hlk (Jvm.hb hby d4_6) (by decide) (by decide) ?_
  exact ⟨rfl, N101, k102, P101_0, P101_1⟩
theorem d3_0 : decode prog_52_method_3_code 0 = .ok (.aload_n 0, 1) := by decide +kernel
theorem d3_1 : decode prog_52_method_3_code 1 = .ok (.dup, 1) := by decide +kernel
theorem d3_2 : decode prog_52_method_3_code 2 = .ok (.getfield 12, 3) := by decide +kernel
theorem d3_5 : decode prog_52_method_3_code 5 = .ok (.lconst 1, 1) := by decide +kernel
theorem d3_6 : decode prog_52_method_3_code 6 = .ok (.ladd, 1) := by decide +kernel
theorem d3_7 : decode prog_52_method_3_code 7 = .ok (.dup2_x1, 1) := by decide +kernel
theorem d3_8 : decode prog_52_method_3_code 8 = .ok (.putfield 12, 3) := by decide +kernel
theorem d3_11 : decode prog_52_method_3_code 11 = .ok (.ldc2_w 16, 3) := by decide +kernel
theorem d3_14 : decode prog_52_method_3_code 14 = .ok (.lmul, 1) := by decide +kernel
theorem d3_15 : decode prog_52_method_3_code 15 = .ok (.lstore_n 1, 1) := by decide +kernel
theorem d3_16 : decode prog_52_method_3_code 16 = .ok (.lload_n 1, 1) := by decide +kernel
theorem d3_17 : decode prog_52_method_3_code 17 = .ok (.lload_n 1, 1) := by decide +kernel
theorem d3_18 : decode prog_52_method_3_code 18 = .ok (.bipush 30, 2) := by decide +kernel
theorem d3_20 : decode prog_52_method_3_code 20 = .ok (.lushr, 1) := by decide +kernel
theorem d3_21 : decode prog_52_method_3_code 21 = .ok (.lxor, 1) := by decide +kernel
theorem d3_22 : decode prog_52_method_3_code 22 = .ok (.ldc2_w 18, 3) := by decide +kernel
theorem d3_25 : decode prog_52_method_3_code 25 = .ok (.lmul, 1) := by decide +kernel
theorem d3_26 : decode prog_52_method_3_code 26 = .ok (.lstore_n 1, 1) := by decide +kernel
theorem d3_27 : decode prog_52_method_3_code 27 = .ok (.lload_n 1, 1) := by decide +kernel
theorem d3_28 : decode prog_52_method_3_code 28 = .ok (.lload_n 1, 1) := by decide +kernel
theorem d3_29 : decode prog_52_method_3_code 29 = .ok (.bipush 27, 2) := by decide +kernel
theorem d3_31 : decode prog_52_method_3_code 31 = .ok (.lushr, 1) := by decide +kernel
theorem d3_32 : decode prog_52_method_3_code 32 = .ok (.lxor, 1) := by decide +kernel
theorem d3_33 : decode prog_52_method_3_code 33 = .ok (.ldc2_w 20, 3) := by decide +kernel
theorem d3_36 : decode prog_52_method_3_code 36 = .ok (.lmul, 1) := by decide +kernel
theorem d3_37 : decode prog_52_method_3_code 37 = .ok (.lstore_n 1, 1) := by decide +kernel
theorem d3_38 : decode prog_52_method_3_code 38 = .ok (.lload_n 1, 1) := by decide +kernel
theorem d3_39 : decode prog_52_method_3_code 39 = .ok (.lload_n 1, 1) := by decide +kernel
theorem d3_40 : decode prog_52_method_3_code 40 = .ok (.bipush 31, 2) := by decide +kernel
theorem d3_42 : decode prog_52_method_3_code 42 = .ok (.lushr, 1) := by decide +kernel
theorem d3_43 : decode prog_52_method_3_code 43 = .ok (.lxor, 1) := by decide +kernel
theorem d3_44 : decode prog_52_method_3_code 44 = .ok (.lstore_n 1, 1) := by decide +kernel
theorem d3_45 : decode prog_52_method_3_code 45 = .ok (.lload_n 1, 1) := by decide +kernel
theorem d3_46 : decode prog_52_method_3_code 46 = .ok (.bipush 11, 2) := by decide +kernel
theorem d3_48 : decode prog_52_method_3_code 48 = .ok (.lushr, 1) := by decide +kernel
theorem d3_49 : decode prog_52_method_3_code 49 = .ok (.l2d, 1) := by decide +kernel
theorem d3_50 : decode prog_52_method_3_code 50 = .ok (.ldc2_w 22, 3) := by decide +kernel
theorem d3_53 : decode prog_52_method_3_code 53 = .ok (.dmul, 1) := by decide +kernel
theorem d3_54 : decode prog_52_method_3_code 54 = .ok (.dreturn, 1) := by decide +kernel
set_option maxRecDepth 65536 in
set_option maxHeartbeats 40000000 in
theorem rm_next (l : Launch) (Z : State) (a0 : Array Value) (hw : ∀ d ∈ tables_1, d.before a0 Z = true) (a1 : Addr) (w : Int64) (h0 : Heap) (n0 : Nat) (Z0 : n0 ≤ h0.size) (E1 : Exa Z h0 a1 "com/example/iridescence/iridescence/RandomSequence") (F1 : Fld Z h0 a1 "com/example/iridescence/iridescence/RandomSequence" "step" "J" (.long w)) (g1 : n0 ≤ a1) :
    Con l Z (⟨"com/example/iridescence/iridescence/RandomSequence", "nextDouble", "()D"⟩ : MethodName) prog_52_method_3_code 3 (some .double) ({ frames := 0, cells := 0, slots := 0, locals := 0 } : Room) #[(.ref a1)] h0 (fun v h L => v = some (.double (own_nd (w + 1))) ∧ Fr n0 L ∧ Keep h0 h [a1] ∧ Exa Z h a1 "com/example/iridescence/iridescence/RandomSequence" ∧ Fld Z h a1 "com/example/iridescence/iridescence/RandomSequence" "step" "J" (.long (w + 1))) := by
  refine enter (l := l) (Z := Z) (y := (⟨"com/example/iridescence/iridescence/RandomSequence", "nextDouble", "()D"⟩ : MethodName)) (bytes := prog_52_method_3_code) (maxL := 3) (ret := (some .double)) (ws := []) (rm := ({ frames := 0, cells := 0, slots := 0, locals := 0 } : Room)) (as' := #[(.ref a1)]) (h0 := h0) (Qv := (fun v h L => v = some (.double (own_nd (w + 1))) ∧ Fr n0 L ∧ Keep h0 h [a1] ∧ Exa Z h a1 "com/example/iridescence/iridescence/RandomSequence" ∧ Fld Z h a1 "com/example/iridescence/iridescence/RandomSequence" "step" "J" (.long (w + 1)))) (kc := 0) (ks := 0) (by first | exact plainFor_of_name (by first | (simp [plainName, overriddenIn]; done) | decide +kernel) | decide +kernel) (Ls := #[.val (.ref a1), .unset, .unset]) (fun m => by first | (simp [entryFrame, mkF, argsToLocals, Value.category]; done) | rfl) ?_
  intro p e s m below meth c s₁ hx hby hml hown hnm hret hlk hZ X0 e0
  have hown : s.vm.findClass "com/example/iridescence/iridescence/RandomSequence" = some m.cls := hown
  have hml : c.maxLocals = 3 := hml
  have N0 := Fr.nil n0
  refine Go.aloadN X0.here hx (Jvm.hb hby d3_0) rfl rfl (q := 1) rfl ?_
  refine Go.dup X0.here hx (Jvm.hb hby d3_1) rfl (q := 2) rfl ?_
  refine Go.getf X0 hx hZ hown (word hw 11 rfl) e0 F1 (Jvm.hb hby d3_2) (q := 5) rfl ?_
  intro T101 X101 e101
  refine Go.lconst X101.here hx (Jvm.hb hby d3_5) (v := (1 : Int64)) rfl (q := 6) rfl ?_
  obtain ⟨u6, hu6⟩ : ∃ zq, w + (1 : Int64) = zq := ⟨_, rfl⟩
  refine Go.ladd X101.here hx (Jvm.hb hby d3_6) hu6 (q := 7) rfl ?_
  refine Go.dup2x1 X101.here hx (Jvm.hb hby d3_7) rfl (q := 8) rfl ?_
  refine Go.putf X101 hx hZ hown (word hw 11 rfl) e101 F1 E1 (Or.inl (word hw 12 rfl)) (word hw 3 rfl) (ty := .long) (by decide) rfl rfl (Jvm.hb hby d3_8) (q := 11) rfl ?_
  intro T102 h102 X102 e102 W102
  have N102 := Fr.snoc X102 N0 g1
  have F102 := F1.same W102
  refine Go.ldc2J X102 hx hown (mvT hZ (word hw 18 rfl)) (Jvm.hb hby d3_11) (q := 14) rfl ?_
  obtain ⟨u14, hu14⟩ : ∃ zq, u6 * (-7046029254386353131 : Int64) = zq := ⟨_, rfl⟩
  refine Go.lmul X102.here hx (Jvm.hb hby d3_14) hu14 (q := 15) rfl ?_
  refine Go.lstoreN X102.here hx (Jvm.hb hby d3_15) (l2 := #[.val (.ref a1), .val (.long u14), .second]) rfl (q := 16) rfl ?_
  refine Go.lloadN X102.here hx (Jvm.hb hby d3_16) rfl (q := 17) rfl ?_
  refine Go.lloadN X102.here hx (Jvm.hb hby d3_17) rfl (q := 18) rfl ?_
  refine Go.bipush X102.here hx (Jvm.hb hby d3_18) (v := (30 : Int32)) rfl (q := 20) rfl ?_
  obtain ⟨u20, hu20⟩ : ∃ zq, (Int64.toUInt64 u14 >>> Int64.toUInt64 (Int32.toInt64 ((30 : Int32) &&& 0x3f))).toInt64 = zq := ⟨_, rfl⟩
  refine Go.lushr X102.here hx (Jvm.hb hby d3_20) hu20 (q := 21) rfl ?_
  obtain ⟨u21, hu21⟩ : ∃ zq, u14 ^^^ u20 = zq := ⟨_, rfl⟩
  refine Go.lxor X102.here hx (Jvm.hb hby d3_21) hu21 (q := 22) rfl ?_
  refine Go.ldc2J X102 hx hown (mvT hZ (word hw 19 rfl)) (Jvm.hb hby d3_22) (q := 25) rfl ?_
  obtain ⟨u25, hu25⟩ : ∃ zq, u21 * (-4658895280553007687 : Int64) = zq := ⟨_, rfl⟩
  refine Go.lmul X102.here hx (Jvm.hb hby d3_25) hu25 (q := 26) rfl ?_
  refine Go.lstoreN X102.here hx (Jvm.hb hby d3_26) (l2 := #[.val (.ref a1), .val (.long u25), .second]) rfl (q := 27) rfl ?_
  refine Go.lloadN X102.here hx (Jvm.hb hby d3_27) rfl (q := 28) rfl ?_
  refine Go.lloadN X102.here hx (Jvm.hb hby d3_28) rfl (q := 29) rfl ?_
  refine Go.bipush X102.here hx (Jvm.hb hby d3_29) (v := (27 : Int32)) rfl (q := 31) rfl ?_
  obtain ⟨u31, hu31⟩ : ∃ zq, (Int64.toUInt64 u25 >>> Int64.toUInt64 (Int32.toInt64 ((27 : Int32) &&& 0x3f))).toInt64 = zq := ⟨_, rfl⟩
  refine Go.lushr X102.here hx (Jvm.hb hby d3_31) hu31 (q := 32) rfl ?_
  obtain ⟨u32, hu32⟩ : ∃ zq, u25 ^^^ u31 = zq := ⟨_, rfl⟩
  refine Go.lxor X102.here hx (Jvm.hb hby d3_32) hu32 (q := 33) rfl ?_
  refine Go.ldc2J X102 hx hown (mvT hZ (word hw 20 rfl)) (Jvm.hb hby d3_33) (q := 36) rfl ?_
  obtain ⟨u36, hu36⟩ : ∃ zq, u32 * (-7723592293110705685 : Int64) = zq := ⟨_, rfl⟩
  refine Go.lmul X102.here hx (Jvm.hb hby d3_36) hu36 (q := 37) rfl ?_
  refine Go.lstoreN X102.here hx (Jvm.hb hby d3_37) (l2 := #[.val (.ref a1), .val (.long u36), .second]) rfl (q := 38) rfl ?_
  refine Go.lloadN X102.here hx (Jvm.hb hby d3_38) rfl (q := 39) rfl ?_
  refine Go.lloadN X102.here hx (Jvm.hb hby d3_39) rfl (q := 40) rfl ?_
  refine Go.bipush X102.here hx (Jvm.hb hby d3_40) (v := (31 : Int32)) rfl (q := 42) rfl ?_
  obtain ⟨u42, hu42⟩ : ∃ zq, (Int64.toUInt64 u36 >>> Int64.toUInt64 (Int32.toInt64 ((31 : Int32) &&& 0x3f))).toInt64 = zq := ⟨_, rfl⟩
  refine Go.lushr X102.here hx (Jvm.hb hby d3_42) hu42 (q := 43) rfl ?_
  obtain ⟨u43, hu43⟩ : ∃ zq, u36 ^^^ u42 = zq := ⟨_, rfl⟩
  refine Go.lxor X102.here hx (Jvm.hb hby d3_43) hu43 (q := 44) rfl ?_
  refine Go.lstoreN X102.here hx (Jvm.hb hby d3_44) (l2 := #[.val (.ref a1), .val (.long u43), .second]) rfl (q := 45) rfl ?_
  refine Go.lloadN X102.here hx (Jvm.hb hby d3_45) rfl (q := 46) rfl ?_
  refine Go.bipush X102.here hx (Jvm.hb hby d3_46) (v := (11 : Int32)) rfl (q := 48) rfl ?_
  obtain ⟨u48, hu48⟩ : ∃ zq, (Int64.toUInt64 u43 >>> Int64.toUInt64 (Int32.toInt64 ((11 : Int32) &&& 0x3f))).toInt64 = zq := ⟨_, rfl⟩
  refine Go.lushr X102.here hx (Jvm.hb hby d3_48) hu48 (q := 49) rfl ?_
  obtain ⟨u49, hu49⟩ : ∃ zq, FP.l2d u48 = zq := ⟨_, rfl⟩
  refine Go.l2d X102.here hx (Jvm.hb hby d3_49) hu49 (q := 50) rfl ?_
  refine Go.ldc2D X102 hx hown (mvT hZ (word hw 21 rfl)) (Jvm.hb hby d3_50) (q := 53) rfl ?_
  obtain ⟨u53, hu53⟩ : ∃ zq, FP.dmul u49 (4368491638549381120 : UInt64) = zq := ⟨_, rfl⟩
  refine Go.dmul X102.here hx (Jvm.hb hby d3_53) (own_nd_nn (s := w + 1) (by subst_vars; rfl)) hu53 (q := 54) rfl ?_
  subst hu6
  have k103 : Keep h0 h102 [a1] := (Keep.refl h0 [a1]).wr W102 (Or.inl (List.mem_of_getElem? (i := 0) rfl))
  have f104 := E1.wr W102
  refine Go.retD X102 hx hret hlk (Jvm.hb hby d3_54) (by decide) (by decide) ?_
  rw [e102]
  exact ⟨by subst_vars; rfl, N102, k103, f104, F102⟩
theorem d5_0 : decode method_2_code 0 = .ok (.dconst 0, 1) := by decide +kernel
theorem d5_1 : decode method_2_code 1 = .ok (.dload_n 0, 1) := by decide +kernel
theorem d5_2 : decode method_2_code 2 = .ok (.dcmp .g, 1) := by decide +kernel
theorem d5_3 : decode method_2_code 3 = .ok (.ifCond .gt 9, 3) := by decide +kernel
theorem d5_6 : decode method_2_code 6 = .ok (.dload_n 0, 1) := by decide +kernel
theorem d5_7 : decode method_2_code 7 = .ok (.dconst 1, 1) := by decide +kernel
theorem d5_8 : decode method_2_code 8 = .ok (.dcmp .g, 1) := by decide +kernel
theorem d5_9 : decode method_2_code 9 = .ok (.ifCond .lt 5, 3) := by decide +kernel
theorem d5_12 : decode method_2_code 12 = .ok (.iconst 0, 1) := by decide +kernel
theorem d5_13 : decode method_2_code 13 = .ok (.ireturn, 1) := by decide +kernel
theorem d5_14 : decode method_2_code 14 = .ok (.dload_n 0, 1) := by decide +kernel
theorem d5_15 : decode method_2_code 15 = .ok (.ldc2_w 7, 3) := by decide +kernel
theorem d5_18 : decode method_2_code 18 = .ok (.dmul, 1) := by decide +kernel
theorem d5_19 : decode method_2_code 19 = .ok (.dstore_n 2, 1) := by decide +kernel
theorem d5_20 : decode method_2_code 20 = .ok (.dload_n 2, 1) := by decide +kernel
theorem d5_21 : decode method_2_code 21 = .ok (.d2l, 1) := by decide +kernel
theorem d5_22 : decode method_2_code 22 = .ok (.lstore 4, 2) := by decide +kernel
theorem d5_24 : decode method_2_code 24 = .ok (.lload 4, 2) := by decide +kernel
theorem d5_26 : decode method_2_code 26 = .ok (.l2d, 1) := by decide +kernel
theorem d5_27 : decode method_2_code 27 = .ok (.dload_n 2, 1) := by decide +kernel
theorem d5_28 : decode method_2_code 28 = .ok (.dcmp .l, 1) := by decide +kernel
theorem d5_29 : decode method_2_code 29 = .ok (.ifCond .ne 23, 3) := by decide +kernel
theorem d5_32 : decode method_2_code 32 = .ok (.lload 4, 2) := by decide +kernel
theorem d5_34 : decode method_2_code 34 = .ok (.lconst 0, 1) := by decide +kernel
theorem d5_35 : decode method_2_code 35 = .ok (.lcmp, 1) := by decide +kernel
theorem d5_36 : decode method_2_code 36 = .ok (.ifCond .lt 16, 3) := by decide +kernel
theorem d5_39 : decode method_2_code 39 = .ok (.lload 4, 2) := by decide +kernel
theorem d5_41 : decode method_2_code 41 = .ok (.ldc2_w 9, 3) := by decide +kernel
theorem d5_44 : decode method_2_code 44 = .ok (.lcmp, 1) := by decide +kernel
theorem d5_45 : decode method_2_code 45 = .ok (.ifCond .ge 7, 3) := by decide +kernel
theorem d5_48 : decode method_2_code 48 = .ok (.iconst 1, 1) := by decide +kernel
theorem d5_49 : decode method_2_code 49 = .ok (.goto 4, 3) := by decide +kernel
theorem d5_52 : decode method_2_code 52 = .ok (.iconst 0, 1) := by decide +kernel
theorem d5_53 : decode method_2_code 53 = .ok (.ireturn, 1) := by decide +kernel
set_option maxRecDepth 65536 in
set_option maxHeartbeats 40000000 in
theorem rm_grid (l : Launch) (Z : State) (a0 : Array Value) (hw : ∀ d ∈ tables_1, d.before a0 Z = true) (x : UInt64) (h0 : Heap) (n0 : Nat) (Z0 : n0 ≤ h0.size) (hon : own_on x) :
    Con l Z (⟨"com/example/iridescence/iridescence/RandomSequenceNextDoublePinLaw", "grid", "(D)Z"⟩ : MethodName) method_2_code 6 (some .boolean) ({ frames := 0, cells := 0, slots := 0, locals := 0 } : Room) #[(.double x)] h0 (fun v h L => v = some (.int (1 : Int32)) ∧ Fr n0 L ∧ h = h0) := by
  refine enter (l := l) (Z := Z) (y := (⟨"com/example/iridescence/iridescence/RandomSequenceNextDoublePinLaw", "grid", "(D)Z"⟩ : MethodName)) (bytes := method_2_code) (maxL := 6) (ret := (some .boolean)) (ws := []) (rm := ({ frames := 0, cells := 0, slots := 0, locals := 0 } : Room)) (as' := #[(.double x)]) (h0 := h0) (Qv := (fun v h L => v = some (.int (1 : Int32)) ∧ Fr n0 L ∧ h = h0)) (kc := 0) (ks := 0) (by first | exact plainFor_of_name (by first | (simp [plainName, overriddenIn]; done) | decide +kernel) | decide +kernel) (Ls := #[.val (.double x), .second, .unset, .unset, .unset, .unset]) (fun m => by first | (simp [entryFrame, mkF, argsToLocals, Value.category]; done) | rfl) ?_
  intro p e s m below meth c s₁ hx hby hml hown hnm hret hlk hZ X0 e0
  have hown : s.vm.findClass "com/example/iridescence/iridescence/RandomSequenceNextDoublePinLaw" = some m.cls := hown
  have hml : c.maxLocals = 6 := hml
  have N0 := Fr.nil n0
  obtain ⟨k, hf, hz, hk0, hk1⟩ := hon
  refine Go.dconst0 X0.here hx (Jvm.hb hby d5_0) (v := (0 : UInt64)) rfl (q := 1) rfl ?_
  refine Go.dloadN X0.here hx (Jvm.hb hby d5_1) rfl (q := 2) rfl ?_
  obtain ⟨u2, hu2⟩ : ∃ zq, cmpValue (FP.dcmp (0 : UInt64) x) .g = zq := ⟨_, rfl⟩
  refine Go.dcmp X0.here hx (Jvm.hb hby d5_2) hu2 (q := 3) rfl ?_
  have hc3 : ¬ ((0 : Int32) < u2) := by rw [← hu2]; exact own_g1 hf hz hk0
  refine Go.ifN X0.here hx (Jvm.hb hby d5_3) ((if0 _ _).trans (flt hc3).2.2.1) (q := 6) rfl ?_
  refine Go.dloadN X0.here hx (Jvm.hb hby d5_6) rfl (q := 7) rfl ?_
  refine Go.dconst1 X0.here hx (Jvm.hb hby d5_7) (v := (4607182418800017408 : UInt64)) rfl (q := 8) rfl ?_
  obtain ⟨u8, hu8⟩ : ∃ zq, cmpValue (FP.dcmp x (4607182418800017408 : UInt64)) .g = zq := ⟨_, rfl⟩
  refine Go.dcmp X0.here hx (Jvm.hb hby d5_8) hu8 (q := 9) rfl ?_
  have hc9 : u8 < (0 : Int32) := by rw [← hu8]; exact own_g2 hf hz hk1
  refine Go.ifY X0.here hx (Jvm.hb hby d5_9) ((if0 _ _).trans (tlt hc9).1) (by decide) (q := 14) rfl ?_
  refine Go.dloadN X0.here hx (Jvm.hb hby d5_14) rfl (q := 15) rfl ?_
  refine Go.ldc2D X0 hx hown (mvT hZ (word hw 31 rfl)) (Jvm.hb hby d5_15) (q := 18) rfl ?_
  obtain ⟨u18, hu18⟩ : ∃ zq, FP.dmul x (4845873199050653696 : UInt64) = zq := ⟨_, rfl⟩
  have G3 := own_g3 hf hz hk0 hk1
  refine Go.dmul X0.here hx (Jvm.hb hby d5_18) (nn_of G3.1) hu18 (q := 19) rfl ?_
  rw [hu18] at G3
  refine Go.dstoreN X0.here hx (Jvm.hb hby d5_19) (l2 := #[.val (.double x), .second, .val (.double u18), .second, .unset, .unset]) rfl (q := 20) rfl ?_
  refine Go.dloadN X0.here hx (Jvm.hb hby d5_20) rfl (q := 21) rfl ?_
  obtain ⟨u21, hu21⟩ : ∃ zq, FP.d2l u18 = zq := ⟨_, rfl⟩
  refine Go.d2l X0.here hx (Jvm.hb hby d5_21) hu21 (q := 22) rfl ?_
  have G4 := own_g4 hu21 G3.1 G3.2 hk0 hk1
  refine Go.lstore X0.here hx (Jvm.hb hby d5_22) (l2 := #[.val (.double x), .second, .val (.double u18), .second, .val (.long u21), .second]) rfl (q := 24) rfl ?_
  refine Go.lload X0.here hx (Jvm.hb hby d5_24) rfl (q := 26) rfl ?_
  obtain ⟨u26, hu26⟩ : ∃ zq, FP.l2d u21 = zq := ⟨_, rfl⟩
  refine Go.l2d X0.here hx (Jvm.hb hby d5_26) hu26 (q := 27) rfl ?_
  refine Go.dloadN X0.here hx (Jvm.hb hby d5_27) rfl (q := 28) rfl ?_
  obtain ⟨u28, hu28⟩ : ∃ zq, cmpValue (FP.dcmp u26 u18) .l = zq := ⟨_, rfl⟩
  refine Go.dcmp X0.here hx (Jvm.hb hby d5_28) hu28 (q := 29) rfl ?_
  have hc29 : u28 = (0 : Int32) := by rw [← hu28]; exact own_g5 hu26 G4 G3.1 G3.2 hk0 hk1
  refine Go.ifN X0.here hx (Jvm.hb hby d5_29) ((if0 _ _).trans (teq hc29).2) (q := 32) rfl ?_
  refine Go.lload X0.here hx (Jvm.hb hby d5_32) rfl (q := 34) rfl ?_
  refine Go.lconst X0.here hx (Jvm.hb hby d5_34) (v := (0 : Int64)) rfl (q := 35) rfl ?_
  obtain ⟨u35, hu35⟩ : ∃ zq, lcmpW u21 (0 : Int64) = zq := ⟨_, rfl⟩
  refine Go.lcmp X0.here hx (Jvm.hb hby d5_35) hu35 (q := 36) rfl ?_
  have hc36 : ¬ (u21 < (0 : Int64)) := own_g6 G4 hk0
  refine Go.ifN X0.here hx (Jvm.hb hby d5_36) ((if0 _ _).trans (flt (fun z => hc36 ((lw_lt _ _).mp (hu35.symm ▸ z)))).1) (q := 39) rfl ?_
  refine Go.lload X0.here hx (Jvm.hb hby d5_39) rfl (q := 41) rfl ?_
  refine Go.ldc2J X0 hx hown (mvT hZ (word hw 32 rfl)) (Jvm.hb hby d5_41) (q := 44) rfl ?_
  obtain ⟨u44, hu44⟩ : ∃ zq, lcmpW u21 (9007199254740992 : Int64) = zq := ⟨_, rfl⟩
  refine Go.lcmp X0.here hx (Jvm.hb hby d5_44) hu44 (q := 45) rfl ?_
  have hc45 : u21 < (9007199254740992 : Int64) := own_g7 G4 hk1
  refine Go.ifN X0.here hx (Jvm.hb hby d5_45) ((if0 _ _).trans (tlt (hu44 ▸ (lw_lt _ _).mpr hc45)).2.1) (q := 48) rfl ?_
  refine Go.iconst X0.here hx (Jvm.hb hby d5_48) (v := (1 : Int32)) rfl (q := 49) rfl ?_
  refine Go.goto X0.here hx (Jvm.hb hby d5_49) (by decide) (q := 53) rfl ?_
  refine Go.retZ X0 hx hret hlk (Jvm.hb hby d5_53) (Or.inr rfl) (by decide) (by decide) ?_
  exact ⟨rfl, N0, e0⟩
set_option maxRecDepth 65536 in
set_option maxHeartbeats 40000000 in
theorem rm_law (l : Launch) (Z : State) (a0 : Array Value) (hw : ∀ d ∈ tables_1, d.before a0 Z = true) (ws : List Jvm.Cond) (q1 : Int64) (q2 : Int64) (h0 : Heap) (n0 : Nat) (Z0 : n0 ≤ h0.size)  :
    MetFree l x (head1 (Jvm.Cond.code x code maxLocals ret :: ws) room_1) (fun a U => a = #[(.long q1), (.long q2)] ∧ Z.Warmed39 U.vm ∧ U.heap = h0) (fun _ _ _ _ _ => True) (fun _ U o U' => ∃ v L, o = .returned v ∧ (fun v h L => v = some (.int (1 : Int32)) ∧ Fr n0 L) v U'.heap L ∧ FrameEnd U o U' L 24 128) := by
  refine enter (l := l) (Z := Z) (y := x) (bytes := code) (maxL := maxLocals) (ret := ret) (ws := ws) (rm := room_1) (as' := #[(.long q1), (.long q2)]) (h0 := h0) (Qv := (fun v h L => v = some (.int (1 : Int32)) ∧ Fr n0 L)) (kc := 24) (ks := 128) (by first | exact plainFor_of_name (by first | (simp [plainName, overriddenIn]; done) | decide +kernel) | decide +kernel) (Ls := #[.val (.long q1), .second, .val (.long q2), .second, .unset, .unset, .unset, .unset, .unset, .unset, .unset, .unset, .unset, .unset, .unset, .unset, .unset, .unset, .unset, .unset, .unset, .unset, .unset, .unset, .unset, .unset, .unset]) (fun m => by first | (simp [entryFrame, mkF, argsToLocals, Value.category, maxLocals]; done) | rfl) ?_
  intro p e s m below meth c s₁ hx hby hml hown hnm hret hlk hZ X0 e0
  have hown : s.vm.findClass "com/example/iridescence/iridescence/RandomSequenceNextDoublePinLaw" = some m.cls := hown
  have hml : c.maxLocals = 27 := hml
  have N0 := Fr.nil n0
  refine Go.lloadN X0.here hx (Jvm.hb hby at_0) rfl (q := 1) rfl ?_
  refine Go.ldc2J X0 hx hown (mvT hZ (word hw 0 rfl)) (Jvm.hb hby at_1) (q := 4) rfl ?_
  obtain ⟨u4, hu4⟩ : ∃ zq, q1 &&& (268435455 : Int64) = zq := ⟨_, rfl⟩
  refine Go.land X0.here hx (Jvm.hb hby at_4) hu4 (q := 5) rfl ?_
  refine Go.lstore X0.here hx (Jvm.hb hby at_5) (l2 := #[.val (.long q1), .second, .val (.long q2), .second, .val (.long u4), .second, .unset, .unset, .unset, .unset, .unset, .unset, .unset, .unset, .unset, .unset, .unset, .unset, .unset, .unset, .unset, .unset, .unset, .unset, .unset, .unset, .unset]) rfl (q := 7) rfl ?_
  refine Go.lloadN X0.here hx (Jvm.hb hby at_7) rfl (q := 8) rfl ?_
  refine Go.ldc2J X0 hx hown (mvT hZ (word hw 1 rfl)) (Jvm.hb hby at_8) (q := 11) rfl ?_
  obtain ⟨u11, hu11⟩ : ∃ zq, q2 &&& (68719476735 : Int64) = zq := ⟨_, rfl⟩
  refine Go.land X0.here hx (Jvm.hb hby at_11) hu11 (q := 12) rfl ?_
  refine Go.lstore X0.here hx (Jvm.hb hby at_12) (l2 := #[.val (.long q1), .second, .val (.long q2), .second, .val (.long u4), .second, .val (.long u11), .second, .unset, .unset, .unset, .unset, .unset, .unset, .unset, .unset, .unset, .unset, .unset, .unset, .unset, .unset, .unset, .unset, .unset, .unset, .unset]) rfl (q := 14) rfl ?_
  refine Go.lload X0.here hx (Jvm.hb hby at_14) rfl (q := 16) rfl ?_
  refine Go.ldc2J X0 hx hown (mvT hZ (word hw 1 rfl)) (Jvm.hb hby at_16) (q := 19) rfl ?_
  obtain ⟨u19, hu19⟩ : ∃ zq, lcmpW u11 (68719476735 : Int64) = zq := ⟨_, rfl⟩
  refine Go.lcmp X0.here hx (Jvm.hb hby at_19) hu19 (q := 20) rfl ?_
  have J29 : ∀ (nv : Int64), Go p e below (Ret s (fun v h L => v = some (.int (1 : Int32)) ∧ Fr n0 L) 24 128) (s₁.setTop (mkF m 29 #[.val (.long q1), .second, .val (.long q2), .second, .val (.long u4), .second, .val (.long nv), .second, .unset, .unset, .unset, .unset, .unset, .unset, .unset, .unset, .unset, .unset, .unset, .unset, .unset, .unset, .unset, .unset, .unset, .unset, .unset] [])) := by
    intro nv 
    refine Go.new X0 hx hZ hown (word hw 2 rfl) (word hw 3 rfl) (word hw 4 rfl) e0 (Jvm.hb hby at_29) (by decide) (by decide) (q := 32) rfl ?_
    intro T101 h101 a101 g101 X101 e101 E101 A101 D101
    have r102 : n0 ≤ a101 := Nat.le_trans Z0 (Nat.le_of_eq g101.symm)
    have F103 : Fld Z h101 a101 "com/example/iridescence/iridescence/RandomSequence" "step" "J" (.long (0 : Int64)) := D101 (Or.inl (word hw 12 rfl)) (ty := .long) (by decide)
    refine Go.dup X101.here hx (Jvm.hb hby at_32) rfl (q := 33) rfl ?_
    refine Go.lload X101.here hx (Jvm.hb hby at_33) rfl (q := 35) rfl ?_
    refine Go.lload X101.here hx (Jvm.hb hby at_35) rfl (q := 37) rfl ?_
    have z105 : n0 ≤ h101.size := Nat.le_trans Z0 E101.1
    refine Go.special X101 hx hZ (y := (⟨"com/example/iridescence/iridescence/RandomSequence", "<init>", "(JJ)V"⟩ : MethodName)) rfl hown (word hw 5 rfl) (word hw 6 rfl) (word hw 7 rfl) (word hw 4 rfl) (by decide) (rm_init2 l Z a0 hw a101 u4 nv (.long (0 : Int64)) h101 n0 z105 A101 F103 r102) e101 (a := a101) (argsL := [(.long u4), (.long nv)]) (rest := [(.ref a101)]) (W := 1) (Jvm.hb hby at_37) rfl rfl (lenOf (pd0) rfl) (by rw [hml]; rfl) (Nat.le_of_eq rfl) (by decide) (by decide) (by decide) (by decide) (q := 40) rfl ?_
    intro T104 L104 w104 X104 hQ104
    obtain ⟨rfl, M104, K104, P104_0, P104_1⟩ := hQ104
    have N104 := Fr.app N0 M104
    show Go p e below _ (T104.setTop (mkF m 40 #[.val (.long q1), .second, .val (.long q2), .second, .val (.long u4), .second, .val (.long nv), .second, .unset, .unset, .unset, .unset, .unset, .unset, .unset, .unset, .unset, .unset, .unset, .unset, .unset, .unset, .unset, .unset, .unset, .unset, .unset] [(.ref a101)]))
    refine Go.astore X104.here hx (Jvm.hb hby at_40) rfl (l2 := #[.val (.long q1), .second, .val (.long q2), .second, .val (.long u4), .second, .val (.long nv), .second, .val (.ref a101), .unset, .unset, .unset, .unset, .unset, .unset, .unset, .unset, .unset, .unset, .unset, .unset, .unset, .unset, .unset, .unset, .unset, .unset]) rfl (q := 42) rfl ?_
    refine Go.aload X104.here hx (Jvm.hb hby at_42) rfl rfl (q := 44) rfl ?_
    have z107 : n0 ≤ T104.heap.size := Nat.le_trans z105 K104.1
    refine Go.virtual X104 hx hZ (y := (⟨"com/example/iridescence/iridescence/RandomSequence", "nextDouble", "()D"⟩ : MethodName)) hown (word hw 13 rfl) (word hw 14 rfl) (word hw 16 rfl) (word hw 15 rfl) (word hw 17 rfl) (word hw 4 rfl) (by decide) (rm_next l Z a0 hw a101 (own_st u4 nv) T104.heap n0 z107 P104_0 P104_1 r102) rfl P104_0  (argsL := []) (rest := []) (W := 0) (Jvm.hb hby at_44) rfl rfl (lenOf (pd1) rfl) (by rw [hml]; rfl) (Nat.le_of_eq rfl) (by decide) (by decide) (by decide) (by decide) (q := 47) rfl ?_
    intro T106 L106 w106 X106 hQ106
    obtain ⟨rfl, M106, K106, P106_0, P106_1⟩ := hQ106
    have N106 := Fr.app N104 M106
    show Go p e below _ (T106.setTop (mkF m 47 #[.val (.long q1), .second, .val (.long q2), .second, .val (.long u4), .second, .val (.long nv), .second, .val (.ref a101), .unset, .unset, .unset, .unset, .unset, .unset, .unset, .unset, .unset, .unset, .unset, .unset, .unset, .unset, .unset, .unset, .unset, .unset] [(.double (own_nd ((own_st u4 nv) + 1)))]))
    obtain ⟨xa, hxa⟩ : ∃ zq, (own_nd ((own_st u4 nv) + 1)) = zq := ⟨_, rfl⟩
    rw [hxa]
    refine Go.dstore X106.here hx (Jvm.hb hby at_47) (l2 := #[.val (.long q1), .second, .val (.long q2), .second, .val (.long u4), .second, .val (.long nv), .second, .val (.ref a101), .val (.double xa), .second, .unset, .unset, .unset, .unset, .unset, .unset, .unset, .unset, .unset, .unset, .unset, .unset, .unset, .unset, .unset, .unset]) rfl (q := 49) rfl ?_
    refine Go.aload X106.here hx (Jvm.hb hby at_49) rfl rfl (q := 51) rfl ?_
    have z109 : n0 ≤ T106.heap.size := Nat.le_trans z107 K106.1
    refine Go.virtual X106 hx hZ (y := (⟨"com/example/iridescence/iridescence/RandomSequence", "nextDouble", "()D"⟩ : MethodName)) hown (word hw 13 rfl) (word hw 14 rfl) (word hw 16 rfl) (word hw 15 rfl) (word hw 17 rfl) (word hw 4 rfl) (by decide) (rm_next l Z a0 hw a101 ((own_st u4 nv) + 1) T106.heap n0 z109 P106_0 P106_1 r102) rfl P106_0  (argsL := []) (rest := []) (W := 0) (Jvm.hb hby at_51) rfl rfl (lenOf (pd1) rfl) (by rw [hml]; rfl) (Nat.le_of_eq rfl) (by decide) (by decide) (by decide) (by decide) (q := 54) rfl ?_
    intro T108 L108 w108 X108 hQ108
    obtain ⟨rfl, M108, K108, P108_0, P108_1⟩ := hQ108
    have N108 := Fr.app N106 M108
    show Go p e below _ (T108.setTop (mkF m 54 #[.val (.long q1), .second, .val (.long q2), .second, .val (.long u4), .second, .val (.long nv), .second, .val (.ref a101), .val (.double xa), .second, .unset, .unset, .unset, .unset, .unset, .unset, .unset, .unset, .unset, .unset, .unset, .unset, .unset, .unset, .unset, .unset] [(.double (own_nd (((own_st u4 nv) + 1) + 1)))]))
    obtain ⟨xb, hxb⟩ : ∃ zq, (own_nd (((own_st u4 nv) + 1) + 1)) = zq := ⟨_, rfl⟩
    rw [hxb]
    refine Go.dstore X108.here hx (Jvm.hb hby at_54) (l2 := #[.val (.long q1), .second, .val (.long q2), .second, .val (.long u4), .second, .val (.long nv), .second, .val (.ref a101), .val (.double xa), .second, .val (.double xb), .second, .unset, .unset, .unset, .unset, .unset, .unset, .unset, .unset, .unset, .unset, .unset, .unset, .unset, .unset]) rfl (q := 56) rfl ?_
    refine Go.new X108 hx hZ hown (word hw 2 rfl) (word hw 3 rfl) (word hw 4 rfl) rfl (Jvm.hb hby at_56) (by decide) (by decide) (q := 59) rfl ?_
    intro T110 h110 a110 g110 X110 e110 E110 A110 D110
    have z111 : n0 ≤ T108.heap.size := Nat.le_trans z109 K108.1
    have r112 : n0 ≤ a110 := Nat.le_trans z111 (Nat.le_of_eq g110.symm)
    have F113 : Fld Z h110 a110 "com/example/iridescence/iridescence/RandomSequence" "step" "J" (.long (0 : Int64)) := D110 (Or.inl (word hw 12 rfl)) (ty := .long) (by decide)
    refine Go.dup X110.here hx (Jvm.hb hby at_59) rfl (q := 60) rfl ?_
    refine Go.lload X110.here hx (Jvm.hb hby at_60) rfl (q := 62) rfl ?_
    refine Go.lload X110.here hx (Jvm.hb hby at_62) rfl (q := 64) rfl ?_
    refine Go.lconst X110.here hx (Jvm.hb hby at_64) (v := (1 : Int64)) rfl (q := 65) rfl ?_
    obtain ⟨u65, hu65⟩ : ∃ zq, nv + (1 : Int64) = zq := ⟨_, rfl⟩
    refine Go.ladd X110.here hx (Jvm.hb hby at_65) hu65 (q := 66) rfl ?_
    have z115 : n0 ≤ h110.size := Nat.le_trans z111 E110.1
    refine Go.special X110 hx hZ (y := (⟨"com/example/iridescence/iridescence/RandomSequence", "<init>", "(JJ)V"⟩ : MethodName)) rfl hown (word hw 5 rfl) (word hw 6 rfl) (word hw 7 rfl) (word hw 4 rfl) (by decide) (rm_init2 l Z a0 hw a110 u4 u65 (.long (0 : Int64)) h110 n0 z115 A110 F113 r112) e110 (a := a110) (argsL := [(.long u4), (.long u65)]) (rest := [(.ref a110)]) (W := 1) (Jvm.hb hby at_66) rfl rfl (lenOf (pd0) rfl) (by rw [hml]; rfl) (Nat.le_of_eq rfl) (by decide) (by decide) (by decide) (by decide) (q := 69) rfl ?_
    intro T114 L114 w114 X114 hQ114
    obtain ⟨rfl, M114, K114, P114_0, P114_1⟩ := hQ114
    have N114 := Fr.app N108 M114
    show Go p e below _ (T114.setTop (mkF m 69 #[.val (.long q1), .second, .val (.long q2), .second, .val (.long u4), .second, .val (.long nv), .second, .val (.ref a101), .val (.double xa), .second, .val (.double xb), .second, .unset, .unset, .unset, .unset, .unset, .unset, .unset, .unset, .unset, .unset, .unset, .unset, .unset, .unset] [(.ref a110)]))
    refine Go.astore X114.here hx (Jvm.hb hby at_69) rfl (l2 := #[.val (.long q1), .second, .val (.long q2), .second, .val (.long u4), .second, .val (.long nv), .second, .val (.ref a101), .val (.double xa), .second, .val (.double xb), .second, .val (.ref a110), .unset, .unset, .unset, .unset, .unset, .unset, .unset, .unset, .unset, .unset, .unset, .unset, .unset]) rfl (q := 71) rfl ?_
    refine Go.aload X114.here hx (Jvm.hb hby at_71) rfl rfl (q := 73) rfl ?_
    have z117 : n0 ≤ T114.heap.size := Nat.le_trans z115 K114.1
    refine Go.virtual X114 hx hZ (y := (⟨"com/example/iridescence/iridescence/RandomSequence", "nextDouble", "()D"⟩ : MethodName)) hown (word hw 13 rfl) (word hw 14 rfl) (word hw 16 rfl) (word hw 15 rfl) (word hw 17 rfl) (word hw 4 rfl) (by decide) (rm_next l Z a0 hw a110 (own_st u4 u65) T114.heap n0 z117 P114_0 P114_1 r112) rfl P114_0  (argsL := []) (rest := []) (W := 0) (Jvm.hb hby at_73) rfl rfl (lenOf (pd1) rfl) (by rw [hml]; rfl) (Nat.le_of_eq rfl) (by decide) (by decide) (by decide) (by decide) (q := 76) rfl ?_
    intro T116 L116 w116 X116 hQ116
    obtain ⟨rfl, M116, K116, P116_0, P116_1⟩ := hQ116
    have N116 := Fr.app N114 M116
    show Go p e below _ (T116.setTop (mkF m 76 #[.val (.long q1), .second, .val (.long q2), .second, .val (.long u4), .second, .val (.long nv), .second, .val (.ref a101), .val (.double xa), .second, .val (.double xb), .second, .val (.ref a110), .unset, .unset, .unset, .unset, .unset, .unset, .unset, .unset, .unset, .unset, .unset, .unset, .unset] [(.double (own_nd ((own_st u4 u65) + 1)))]))
    obtain ⟨xc, hxc⟩ : ∃ zq, (own_nd ((own_st u4 u65) + 1)) = zq := ⟨_, rfl⟩
    rw [hxc]
    refine Go.dstore X116.here hx (Jvm.hb hby at_76) (l2 := #[.val (.long q1), .second, .val (.long q2), .second, .val (.long u4), .second, .val (.long nv), .second, .val (.ref a101), .val (.double xa), .second, .val (.double xb), .second, .val (.ref a110), .val (.double xc), .second, .unset, .unset, .unset, .unset, .unset, .unset, .unset, .unset, .unset, .unset, .unset]) rfl (q := 78) rfl ?_
    refine Go.new X116 hx hZ hown (word hw 2 rfl) (word hw 3 rfl) (word hw 4 rfl) rfl (Jvm.hb hby at_78) (by decide) (by decide) (q := 81) rfl ?_
    intro T118 h118 a118 g118 X118 e118 E118 A118 D118
    have z119 : n0 ≤ T116.heap.size := Nat.le_trans z117 K116.1
    have r120 : n0 ≤ a118 := Nat.le_trans z119 (Nat.le_of_eq g118.symm)
    have F121 : Fld Z h118 a118 "com/example/iridescence/iridescence/RandomSequence" "step" "J" (.long (0 : Int64)) := D118 (Or.inl (word hw 12 rfl)) (ty := .long) (by decide)
    refine Go.dup X118.here hx (Jvm.hb hby at_81) rfl (q := 82) rfl ?_
    refine Go.lload X118.here hx (Jvm.hb hby at_82) rfl (q := 84) rfl ?_
    have z123 : n0 ≤ h118.size := Nat.le_trans z119 E118.1
    refine Go.special X118 hx hZ (y := (⟨"com/example/iridescence/iridescence/RandomSequence", "<init>", "(J)V"⟩ : MethodName)) rfl hown (word hw 22 rfl) (word hw 23 rfl) (word hw 24 rfl) (word hw 4 rfl) (by decide) (rm_init1 l Z a0 hw a118 u4 (.long (0 : Int64)) h118 n0 z123 A118 F121 r120) e118 (a := a118) (argsL := [(.long u4)]) (rest := [(.ref a118)]) (W := 1) (Jvm.hb hby at_84) rfl rfl (lenOf (pd2) rfl) (by rw [hml]; rfl) (Nat.le_of_eq rfl) (by decide) (by decide) (by decide) (by decide) (q := 87) rfl ?_
    intro T122 L122 w122 X122 hQ122
    obtain ⟨rfl, M122, K122, P122_0, P122_1⟩ := hQ122
    have N122 := Fr.app N116 M122
    show Go p e below _ (T122.setTop (mkF m 87 #[.val (.long q1), .second, .val (.long q2), .second, .val (.long u4), .second, .val (.long nv), .second, .val (.ref a101), .val (.double xa), .second, .val (.double xb), .second, .val (.ref a110), .val (.double xc), .second, .unset, .unset, .unset, .unset, .unset, .unset, .unset, .unset, .unset, .unset, .unset] [(.ref a118)]))
    refine Go.astore X122.here hx (Jvm.hb hby at_87) rfl (l2 := #[.val (.long q1), .second, .val (.long q2), .second, .val (.long u4), .second, .val (.long nv), .second, .val (.ref a101), .val (.double xa), .second, .val (.double xb), .second, .val (.ref a110), .val (.double xc), .second, .val (.ref a118), .unset, .unset, .unset, .unset, .unset, .unset, .unset, .unset, .unset, .unset]) rfl (q := 89) rfl ?_
    refine Go.aload X122.here hx (Jvm.hb hby at_89) rfl rfl (q := 91) rfl ?_
    have z125 : n0 ≤ T122.heap.size := Nat.le_trans z123 K122.1
    refine Go.virtual X122 hx hZ (y := (⟨"com/example/iridescence/iridescence/RandomSequence", "nextDouble", "()D"⟩ : MethodName)) hown (word hw 13 rfl) (word hw 14 rfl) (word hw 16 rfl) (word hw 15 rfl) (word hw 17 rfl) (word hw 4 rfl) (by decide) (rm_next l Z a0 hw a118 (own_st u4 (0 : Int64)) T122.heap n0 z125 P122_0 P122_1 r120) rfl P122_0  (argsL := []) (rest := []) (W := 0) (Jvm.hb hby at_91) rfl rfl (lenOf (pd1) rfl) (by rw [hml]; rfl) (Nat.le_of_eq rfl) (by decide) (by decide) (by decide) (by decide) (q := 94) rfl ?_
    intro T124 L124 w124 X124 hQ124
    obtain ⟨rfl, M124, K124, P124_0, P124_1⟩ := hQ124
    have N124 := Fr.app N122 M124
    show Go p e below _ (T124.setTop (mkF m 94 #[.val (.long q1), .second, .val (.long q2), .second, .val (.long u4), .second, .val (.long nv), .second, .val (.ref a101), .val (.double xa), .second, .val (.double xb), .second, .val (.ref a110), .val (.double xc), .second, .val (.ref a118), .unset, .unset, .unset, .unset, .unset, .unset, .unset, .unset, .unset, .unset] [(.double (own_nd ((own_st u4 (0 : Int64)) + 1)))]))
    obtain ⟨xd, hxd⟩ : ∃ zq, (own_nd ((own_st u4 (0 : Int64)) + 1)) = zq := ⟨_, rfl⟩
    rw [hxd]
    refine Go.dstore X124.here hx (Jvm.hb hby at_94) (l2 := #[.val (.long q1), .second, .val (.long q2), .second, .val (.long u4), .second, .val (.long nv), .second, .val (.ref a101), .val (.double xa), .second, .val (.double xb), .second, .val (.ref a110), .val (.double xc), .second, .val (.ref a118), .val (.double xd), .second, .unset, .unset, .unset, .unset, .unset, .unset, .unset, .unset]) rfl (q := 96) rfl ?_
    refine Go.new X124 hx hZ hown (word hw 2 rfl) (word hw 3 rfl) (word hw 4 rfl) rfl (Jvm.hb hby at_96) (by decide) (by decide) (q := 99) rfl ?_
    intro T126 h126 a126 g126 X126 e126 E126 A126 D126
    have z127 : n0 ≤ T124.heap.size := Nat.le_trans z125 K124.1
    have r128 : n0 ≤ a126 := Nat.le_trans z127 (Nat.le_of_eq g126.symm)
    have F129 : Fld Z h126 a126 "com/example/iridescence/iridescence/RandomSequence" "step" "J" (.long (0 : Int64)) := D126 (Or.inl (word hw 12 rfl)) (ty := .long) (by decide)
    refine Go.dup X126.here hx (Jvm.hb hby at_99) rfl (q := 100) rfl ?_
    refine Go.lload X126.here hx (Jvm.hb hby at_100) rfl (q := 102) rfl ?_
    refine Go.lconst X126.here hx (Jvm.hb hby at_102) (v := (0 : Int64)) rfl (q := 103) rfl ?_
    have z131 : n0 ≤ h126.size := Nat.le_trans z127 E126.1
    refine Go.special X126 hx hZ (y := (⟨"com/example/iridescence/iridescence/RandomSequence", "<init>", "(JJ)V"⟩ : MethodName)) rfl hown (word hw 5 rfl) (word hw 6 rfl) (word hw 7 rfl) (word hw 4 rfl) (by decide) (rm_init2 l Z a0 hw a126 u4 (0 : Int64) (.long (0 : Int64)) h126 n0 z131 A126 F129 r128) e126 (a := a126) (argsL := [(.long u4), (.long (0 : Int64))]) (rest := [(.ref a126)]) (W := 1) (Jvm.hb hby at_103) rfl rfl (lenOf (pd0) rfl) (by rw [hml]; rfl) (Nat.le_of_eq rfl) (by decide) (by decide) (by decide) (by decide) (q := 106) rfl ?_
    intro T130 L130 w130 X130 hQ130
    obtain ⟨rfl, M130, K130, P130_0, P130_1⟩ := hQ130
    have N130 := Fr.app N124 M130
    show Go p e below _ (T130.setTop (mkF m 106 #[.val (.long q1), .second, .val (.long q2), .second, .val (.long u4), .second, .val (.long nv), .second, .val (.ref a101), .val (.double xa), .second, .val (.double xb), .second, .val (.ref a110), .val (.double xc), .second, .val (.ref a118), .val (.double xd), .second, .unset, .unset, .unset, .unset, .unset, .unset, .unset, .unset] [(.ref a126)]))
    refine Go.astore X130.here hx (Jvm.hb hby at_106) rfl (l2 := #[.val (.long q1), .second, .val (.long q2), .second, .val (.long u4), .second, .val (.long nv), .second, .val (.ref a101), .val (.double xa), .second, .val (.double xb), .second, .val (.ref a110), .val (.double xc), .second, .val (.ref a118), .val (.double xd), .second, .val (.ref a126), .unset, .unset, .unset, .unset, .unset, .unset, .unset]) rfl (q := 108) rfl ?_
    refine Go.aload X130.here hx (Jvm.hb hby at_108) rfl rfl (q := 110) rfl ?_
    have z133 : n0 ≤ T130.heap.size := Nat.le_trans z131 K130.1
    refine Go.virtual X130 hx hZ (y := (⟨"com/example/iridescence/iridescence/RandomSequence", "nextDouble", "()D"⟩ : MethodName)) hown (word hw 13 rfl) (word hw 14 rfl) (word hw 16 rfl) (word hw 15 rfl) (word hw 17 rfl) (word hw 4 rfl) (by decide) (rm_next l Z a0 hw a126 (own_st u4 (0 : Int64)) T130.heap n0 z133 P130_0 P130_1 r128) rfl P130_0  (argsL := []) (rest := []) (W := 0) (Jvm.hb hby at_110) rfl rfl (lenOf (pd1) rfl) (by rw [hml]; rfl) (Nat.le_of_eq rfl) (by decide) (by decide) (by decide) (by decide) (q := 113) rfl ?_
    intro T132 L132 w132 X132 hQ132
    obtain ⟨rfl, M132, K132, P132_0, P132_1⟩ := hQ132
    have N132 := Fr.app N130 M132
    show Go p e below _ (T132.setTop (mkF m 113 #[.val (.long q1), .second, .val (.long q2), .second, .val (.long u4), .second, .val (.long nv), .second, .val (.ref a101), .val (.double xa), .second, .val (.double xb), .second, .val (.ref a110), .val (.double xc), .second, .val (.ref a118), .val (.double xd), .second, .val (.ref a126), .unset, .unset, .unset, .unset, .unset, .unset, .unset] [(.double (own_nd ((own_st u4 (0 : Int64)) + 1)))]))
    obtain ⟨xe, hxe⟩ : ∃ zq, (own_nd ((own_st u4 (0 : Int64)) + 1)) = zq := ⟨_, rfl⟩
    rw [hxe]
    refine Go.dstore X132.here hx (Jvm.hb hby at_113) (l2 := #[.val (.long q1), .second, .val (.long q2), .second, .val (.long u4), .second, .val (.long nv), .second, .val (.ref a101), .val (.double xa), .second, .val (.double xb), .second, .val (.ref a110), .val (.double xc), .second, .val (.ref a118), .val (.double xd), .second, .val (.ref a126), .val (.double xe), .second, .unset, .unset, .unset, .unset, .unset]) rfl (q := 115) rfl ?_
    refine Go.new X132 hx hZ hown (word hw 2 rfl) (word hw 3 rfl) (word hw 4 rfl) rfl (Jvm.hb hby at_115) (by decide) (by decide) (q := 118) rfl ?_
    intro T134 h134 a134 g134 X134 e134 E134 A134 D134
    have z135 : n0 ≤ T132.heap.size := Nat.le_trans z133 K132.1
    have r136 : n0 ≤ a134 := Nat.le_trans z135 (Nat.le_of_eq g134.symm)
    have F137 : Fld Z h134 a134 "com/example/iridescence/iridescence/RandomSequence" "step" "J" (.long (0 : Int64)) := D134 (Or.inl (word hw 12 rfl)) (ty := .long) (by decide)
    refine Go.dup X134.here hx (Jvm.hb hby at_118) rfl (q := 119) rfl ?_
    refine Go.lconst X134.here hx (Jvm.hb hby at_119) (v := (0 : Int64)) rfl (q := 120) rfl ?_
    refine Go.lconst X134.here hx (Jvm.hb hby at_120) (v := (0 : Int64)) rfl (q := 121) rfl ?_
    have z139 : n0 ≤ h134.size := Nat.le_trans z135 E134.1
    refine Go.special X134 hx hZ (y := (⟨"com/example/iridescence/iridescence/RandomSequence", "<init>", "(JJ)V"⟩ : MethodName)) rfl hown (word hw 5 rfl) (word hw 6 rfl) (word hw 7 rfl) (word hw 4 rfl) (by decide) (rm_init2 l Z a0 hw a134 (0 : Int64) (0 : Int64) (.long (0 : Int64)) h134 n0 z139 A134 F137 r136) e134 (a := a134) (argsL := [(.long (0 : Int64)), (.long (0 : Int64))]) (rest := [(.ref a134)]) (W := 1) (Jvm.hb hby at_121) rfl rfl (lenOf (pd0) rfl) (by rw [hml]; rfl) (Nat.le_of_eq rfl) (by decide) (by decide) (by decide) (by decide) (q := 124) rfl ?_
    intro T138 L138 w138 X138 hQ138
    obtain ⟨rfl, M138, K138, P138_0, P138_1⟩ := hQ138
    have N138 := Fr.app N132 M138
    show Go p e below _ (T138.setTop (mkF m 124 #[.val (.long q1), .second, .val (.long q2), .second, .val (.long u4), .second, .val (.long nv), .second, .val (.ref a101), .val (.double xa), .second, .val (.double xb), .second, .val (.ref a110), .val (.double xc), .second, .val (.ref a118), .val (.double xd), .second, .val (.ref a126), .val (.double xe), .second, .unset, .unset, .unset, .unset, .unset] [(.ref a134)]))
    refine Go.astore X138.here hx (Jvm.hb hby at_124) rfl (l2 := #[.val (.long q1), .second, .val (.long q2), .second, .val (.long u4), .second, .val (.long nv), .second, .val (.ref a101), .val (.double xa), .second, .val (.double xb), .second, .val (.ref a110), .val (.double xc), .second, .val (.ref a118), .val (.double xd), .second, .val (.ref a126), .val (.double xe), .second, .val (.ref a134), .unset, .unset, .unset, .unset]) rfl (q := 126) rfl ?_
    refine Go.aload X138.here hx (Jvm.hb hby at_126) rfl rfl (q := 128) rfl ?_
    have z141 : n0 ≤ T138.heap.size := Nat.le_trans z139 K138.1
    refine Go.virtual X138 hx hZ (y := (⟨"com/example/iridescence/iridescence/RandomSequence", "nextDouble", "()D"⟩ : MethodName)) hown (word hw 13 rfl) (word hw 14 rfl) (word hw 16 rfl) (word hw 15 rfl) (word hw 17 rfl) (word hw 4 rfl) (by decide) (rm_next l Z a0 hw a134 (own_st (0 : Int64) (0 : Int64)) T138.heap n0 z141 P138_0 P138_1 r136) rfl P138_0  (argsL := []) (rest := []) (W := 0) (Jvm.hb hby at_128) rfl rfl (lenOf (pd1) rfl) (by rw [hml]; rfl) (Nat.le_of_eq rfl) (by decide) (by decide) (by decide) (by decide) (q := 131) rfl ?_
    intro T140 L140 w140 X140 hQ140
    obtain ⟨rfl, M140, K140, P140_0, P140_1⟩ := hQ140
    have N140 := Fr.app N138 M140
    show Go p e below _ (T140.setTop (mkF m 131 #[.val (.long q1), .second, .val (.long q2), .second, .val (.long u4), .second, .val (.long nv), .second, .val (.ref a101), .val (.double xa), .second, .val (.double xb), .second, .val (.ref a110), .val (.double xc), .second, .val (.ref a118), .val (.double xd), .second, .val (.ref a126), .val (.double xe), .second, .val (.ref a134), .unset, .unset, .unset, .unset] [(.double (own_nd ((own_st (0 : Int64) (0 : Int64)) + 1)))]))
    obtain ⟨xz, hxz⟩ : ∃ zq, (own_nd ((own_st (0 : Int64) (0 : Int64)) + 1)) = zq := ⟨_, rfl⟩
    rw [hxz]
    refine Go.dstore X140.here hx (Jvm.hb hby at_131) (l2 := #[.val (.long q1), .second, .val (.long q2), .second, .val (.long u4), .second, .val (.long nv), .second, .val (.ref a101), .val (.double xa), .second, .val (.double xb), .second, .val (.ref a110), .val (.double xc), .second, .val (.ref a118), .val (.double xd), .second, .val (.ref a126), .val (.double xe), .second, .val (.ref a134), .val (.double xz), .second, .unset, .unset]) rfl (q := 133) rfl ?_
    refine Go.ldc2D X140 hx hown (mvT hZ (word hw 26 rfl)) (Jvm.hb hby at_133) (q := 136) rfl ?_
    refine Go.dstore X140.here hx (Jvm.hb hby at_136) (l2 := #[.val (.long q1), .second, .val (.long q2), .second, .val (.long u4), .second, .val (.long nv), .second, .val (.ref a101), .val (.double xa), .second, .val (.double xb), .second, .val (.ref a110), .val (.double xc), .second, .val (.ref a118), .val (.double xd), .second, .val (.ref a126), .val (.double xe), .second, .val (.ref a134), .val (.double xz), .second, .val (.double (4606131375998723001 : UInt64)), .second]) rfl (q := 138) rfl ?_
    refine Go.dload X140.here hx (Jvm.hb hby at_138) rfl (q := 140) rfl ?_
    have z143 : n0 ≤ T140.heap.size := Nat.le_trans z141 K140.1
    refine Go.static X140 hx hZ (y := (⟨"com/example/iridescence/iridescence/RandomSequenceNextDoublePinLaw", "grid", "(D)Z"⟩ : MethodName)) hown (word hw 27 rfl) (word hw 28 rfl) (word hw 30 rfl) (word hw 29 rfl) (by decide) (rm_grid l Z a0 hw xa T140.heap n0 z143 (own_on_nd hxa)) rfl  (argsL := [(.double xa)]) (rest := []) (W := 0) (Jvm.hb hby at_140) rfl rfl (lenOf (pd3) rfl) (by rw [hml]; rfl) (Nat.le_of_eq rfl) (by decide) (by decide) (by decide) (by decide) (q := 143) rfl ?_
    intro T142 L142 w142 X142 hQ142
    obtain ⟨rfl, M142, q142⟩ := hQ142
    have N142 := Fr.app N140 M142
    show Go p e below _ (T142.setTop (mkF m 143 #[.val (.long q1), .second, .val (.long q2), .second, .val (.long u4), .second, .val (.long nv), .second, .val (.ref a101), .val (.double xa), .second, .val (.double xb), .second, .val (.ref a110), .val (.double xc), .second, .val (.ref a118), .val (.double xd), .second, .val (.ref a126), .val (.double xe), .second, .val (.ref a134), .val (.double xz), .second, .val (.double (4606131375998723001 : UInt64)), .second] [(.int (1 : Int32))]))
    have hc143_145 : ¬ ((1 : Int32) = (0 : Int32)) := by decide
    refine Go.ifN X142.here hx (Jvm.hb hby at_143) ((if0 _ _).trans (feq hc143_145).1) (q := 146) rfl ?_
    refine Go.dload X142.here hx (Jvm.hb hby at_146) rfl (q := 148) rfl ?_
    refine Go.static X142 hx hZ (y := (⟨"com/example/iridescence/iridescence/RandomSequenceNextDoublePinLaw", "grid", "(D)Z"⟩ : MethodName)) hown (word hw 27 rfl) (word hw 28 rfl) (word hw 30 rfl) (word hw 29 rfl) (by decide) (rm_grid l Z a0 hw xb T140.heap n0 z143 (own_on_nd hxb)) q142  (argsL := [(.double xb)]) (rest := []) (W := 0) (Jvm.hb hby at_148) rfl rfl (lenOf (pd3) rfl) (by rw [hml]; rfl) (Nat.le_of_eq rfl) (by decide) (by decide) (by decide) (by decide) (q := 151) rfl ?_
    intro T146 L146 w146 X146 hQ146
    obtain ⟨rfl, M146, q146⟩ := hQ146
    have N146 := Fr.app N142 M146
    show Go p e below _ (T146.setTop (mkF m 151 #[.val (.long q1), .second, .val (.long q2), .second, .val (.long u4), .second, .val (.long nv), .second, .val (.ref a101), .val (.double xa), .second, .val (.double xb), .second, .val (.ref a110), .val (.double xc), .second, .val (.ref a118), .val (.double xd), .second, .val (.ref a126), .val (.double xe), .second, .val (.ref a134), .val (.double xz), .second, .val (.double (4606131375998723001 : UInt64)), .second] [(.int (1 : Int32))]))
    have hc151_148 : ¬ ((1 : Int32) = (0 : Int32)) := by decide
    refine Go.ifN X146.here hx (Jvm.hb hby at_151) ((if0 _ _).trans (feq hc151_148).1) (q := 154) rfl ?_
    refine Go.dload X146.here hx (Jvm.hb hby at_154) rfl (q := 156) rfl ?_
    refine Go.static X146 hx hZ (y := (⟨"com/example/iridescence/iridescence/RandomSequenceNextDoublePinLaw", "grid", "(D)Z"⟩ : MethodName)) hown (word hw 27 rfl) (word hw 28 rfl) (word hw 30 rfl) (word hw 29 rfl) (by decide) (rm_grid l Z a0 hw xc T140.heap n0 z143 (own_on_nd hxc)) q146  (argsL := [(.double xc)]) (rest := []) (W := 0) (Jvm.hb hby at_156) rfl rfl (lenOf (pd3) rfl) (by rw [hml]; rfl) (Nat.le_of_eq rfl) (by decide) (by decide) (by decide) (by decide) (q := 159) rfl ?_
    intro T149 L149 w149 X149 hQ149
    obtain ⟨rfl, M149, q149⟩ := hQ149
    have N149 := Fr.app N146 M149
    show Go p e below _ (T149.setTop (mkF m 159 #[.val (.long q1), .second, .val (.long q2), .second, .val (.long u4), .second, .val (.long nv), .second, .val (.ref a101), .val (.double xa), .second, .val (.double xb), .second, .val (.ref a110), .val (.double xc), .second, .val (.ref a118), .val (.double xd), .second, .val (.ref a126), .val (.double xe), .second, .val (.ref a134), .val (.double xz), .second, .val (.double (4606131375998723001 : UInt64)), .second] [(.int (1 : Int32))]))
    have hc159_151 : ¬ ((1 : Int32) = (0 : Int32)) := by decide
    refine Go.ifN X149.here hx (Jvm.hb hby at_159) ((if0 _ _).trans (feq hc159_151).1) (q := 162) rfl ?_
    refine Go.dload X149.here hx (Jvm.hb hby at_162) rfl (q := 164) rfl ?_
    refine Go.static X149 hx hZ (y := (⟨"com/example/iridescence/iridescence/RandomSequenceNextDoublePinLaw", "grid", "(D)Z"⟩ : MethodName)) hown (word hw 27 rfl) (word hw 28 rfl) (word hw 30 rfl) (word hw 29 rfl) (by decide) (rm_grid l Z a0 hw xd T140.heap n0 z143 (own_on_nd hxd)) q149  (argsL := [(.double xd)]) (rest := []) (W := 0) (Jvm.hb hby at_164) rfl rfl (lenOf (pd3) rfl) (by rw [hml]; rfl) (Nat.le_of_eq rfl) (by decide) (by decide) (by decide) (by decide) (q := 167) rfl ?_
    intro T152 L152 w152 X152 hQ152
    obtain ⟨rfl, M152, q152⟩ := hQ152
    have N152 := Fr.app N149 M152
    show Go p e below _ (T152.setTop (mkF m 167 #[.val (.long q1), .second, .val (.long q2), .second, .val (.long u4), .second, .val (.long nv), .second, .val (.ref a101), .val (.double xa), .second, .val (.double xb), .second, .val (.ref a110), .val (.double xc), .second, .val (.ref a118), .val (.double xd), .second, .val (.ref a126), .val (.double xe), .second, .val (.ref a134), .val (.double xz), .second, .val (.double (4606131375998723001 : UInt64)), .second] [(.int (1 : Int32))]))
    have hc167_154 : ¬ ((1 : Int32) = (0 : Int32)) := by decide
    refine Go.ifN X152.here hx (Jvm.hb hby at_167) ((if0 _ _).trans (feq hc167_154).1) (q := 170) rfl ?_
    refine Go.dload X152.here hx (Jvm.hb hby at_170) rfl (q := 172) rfl ?_
    refine Go.dload X152.here hx (Jvm.hb hby at_172) rfl (q := 174) rfl ?_
    obtain ⟨u174, hu174⟩ : ∃ zq, cmpValue (FP.dcmp xb xc) .l = zq := ⟨_, rfl⟩
    refine Go.dcmp X152.here hx (Jvm.hb hby at_174) hu174 (q := 175) rfl ?_
    have hc175 : u174 = (0 : Int32) := by rw [← hu174]; exact own_eq hxb hxc (own_step hu65)
    refine Go.ifN X152.here hx (Jvm.hb hby at_175) ((if0 _ _).trans (teq hc175).2) (q := 178) rfl ?_
    refine Go.dload X152.here hx (Jvm.hb hby at_178) rfl (q := 180) rfl ?_
    refine Go.dload X152.here hx (Jvm.hb hby at_180) rfl (q := 182) rfl ?_
    obtain ⟨u182, hu182⟩ : ∃ zq, cmpValue (FP.dcmp xd xe) .l = zq := ⟨_, rfl⟩
    refine Go.dcmp X152.here hx (Jvm.hb hby at_182) hu182 (q := 183) rfl ?_
    have hc183 : u182 = (0 : Int32) := by rw [← hu182]; exact own_eq hxd hxe rfl
    refine Go.ifN X152.here hx (Jvm.hb hby at_183) ((if0 _ _).trans (teq hc183).2) (q := 186) rfl ?_
    refine Go.dload X152.here hx (Jvm.hb hby at_186) rfl (q := 188) rfl ?_
    refine Go.dload X152.here hx (Jvm.hb hby at_188) rfl (q := 190) rfl ?_
    obtain ⟨u190, hu190⟩ : ∃ zq, cmpValue (FP.dcmp xz (4606131375998723001 : UInt64)) .l = zq := ⟨_, rfl⟩
    refine Go.dcmp X152.here hx (Jvm.hb hby at_190) hu190 (q := 191) rfl ?_
    have hc191 : u190 = (0 : Int32) := by rw [← hu190]; exact own_const hxz
    refine Go.ifN X152.here hx (Jvm.hb hby at_191) ((if0 _ _).trans (teq hc191).2) (q := 194) rfl ?_
    refine Go.iconst X152.here hx (Jvm.hb hby at_194) (v := (1 : Int32)) rfl (q := 195) rfl ?_
    refine Go.goto X152.here hx (Jvm.hb hby at_195) (by decide) (q := 199) rfl ?_
    refine Go.retZ X152 hx hret hlk (Jvm.hb hby at_199) (Or.inr rfl) (by decide) (by decide) ?_
    exact ⟨rfl, N152⟩
  by_cases hc20 : u11 = (68719476735 : Int64)
  · -- pc 20: u11 = (68719476735 : Int64)
    refine Go.ifN X0.here hx (Jvm.hb hby at_20) ((if0 _ _).trans (teq (hu19 ▸ (lw_eq _ _).mpr hc20)).2) (q := 23) rfl ?_
    refine Go.lload X0.here hx (Jvm.hb hby at_23) rfl (q := 25) rfl ?_
    refine Go.lconst X0.here hx (Jvm.hb hby at_25) (v := (1 : Int64)) rfl (q := 26) rfl ?_
    obtain ⟨u26, hu26⟩ : ∃ zq, u11 - (1 : Int64) = zq := ⟨_, rfl⟩
    refine Go.lsub X0.here hx (Jvm.hb hby at_26) hu26 (q := 27) rfl ?_
    refine Go.lstore X0.here hx (Jvm.hb hby at_27) (l2 := #[.val (.long q1), .second, .val (.long q2), .second, .val (.long u4), .second, .val (.long u26), .second, .unset, .unset, .unset, .unset, .unset, .unset, .unset, .unset, .unset, .unset, .unset, .unset, .unset, .unset, .unset, .unset, .unset, .unset, .unset]) rfl (q := 29) rfl ?_
    exact J29 u26 
  · -- pc 20: not u11 = (68719476735 : Int64)
    refine Go.ifY X0.here hx (Jvm.hb hby at_20) ((if0 _ _).trans (feq (fun z => hc20 ((lw_eq _ _).mp (hu19.symm ▸ z)))).2) (by decide) (q := 29) rfl ?_
    exact J29 u11 
set_option maxRecDepth 65536 in
set_option maxHeartbeats 40000000 in
theorem comes_1 {Post : Tables → Env → Array Value → State → Outcome → State → Prop} (hpost : ∀ tb e args s v u, (limb_1_1.after args s (.returned v) u = true ∧ limb_1_2.after args s (.returned v) u = true ∧ True) → FrameEnd s (.returned v) u (Jvm.fieldLocs frame_1_writes args s ++ Jvm.arrayLocs frame_1_arrays args s ++ Jvm.staticLocs frame_1_statics s) 24 128 → Post tb e args s (.returned v) u) :
    ArmFor flags0 classFile x code maxLocals ret World_1 tables_1 room_1 Calls_1 rest_1 Pre_1 Post := by
  intro l hfl _ _ p e ha hc hk s m args below hf hA hF happ hP
  obtain ⟨hcalls, hrest, hpre⟩ := hP
  obtain ⟨-, -, -, hnamed, -, -, -, hat⟩ := (Spec.applies_iff hf).mp happ
  obtain ⟨hg, hn⟩ := and_e (Cond.before_iff.mp (show (Jvm.Cond.and given_1 narrow_1).before args s = true from hpre))
  obtain ⟨g0, hg⟩ := and_e hg
  obtain ⟨w0, w1, rfl⟩ : ∃ w0 w1 : Value, args = #[w0, w1] := by
    have hs : args.size = 2 := by simpa [Cond.value, given_1] using g0
    obtain ⟨L⟩ := args
    match L, hs with
    | [w0, w1], _ => exact ⟨w0, w1, rfl⟩
  have hw := fun d (hd : d ∈ tables_1) => atoms_spec (ws := Jvm.Cond.code x code maxLocals ret :: tables_1) hat d (List.mem_cons_of_mem _ hd)
  obtain ⟨g1, hg⟩ := and_e hg
  obtain ⟨i0, e0⟩ := isL_v g1
  obtain rfl : w0 = (.long i0) := Option.some.inj e0
  obtain ⟨i1, e1⟩ := isL_v hg
  obtain rfl : w1 = (.long i1) := Option.some.inj e1
  obtain ⟨n, o, h1, h2, h3, _, L, rfl, ⟨rfl, N⟩, hq⟩ := rm_law l s _ hw tables_1 i0 i1  s.heap s.heap.size (Nat.le_refl _)  p e ha hc hk s m _ below hf ((Spec.applies_iff_loose hf).mp happ).1 ⟨rfl, State.Warmed39.refl s, rfl⟩ trivial
  refine ⟨n, _, h1, h2, h3, hpost _ _ _ _ _ _ ⟨Cond.after_iff.mpr rfl, Cond.after_iff.mpr (eq_i res_at (Term.int_eval (1)) rfl), trivial⟩ ⟨hq.1, hq.2.1, (hq.2.2.sift fun y hy => Or.inr (N y hy)).mono (by decide) (by decide)⟩⟩
theorem main_1_1 : Claimed_1_1 := comes_1 fun _ _ _ _ _ _ h hF => ⟨h.1, hF⟩
theorem main_1_2 : Claimed_1_2 := comes_1 fun _ _ _ _ _ _ h hF => ⟨h.2.1, hF⟩
end Jvm.Pilot.@@N@@
namespace Jvm.Pilot.@@N@@
open Jvm Jvm.ClassFile Sem Op Lib Jvm.Free Jvm.Stand Jvm.Pilot.@@N@@.Jvm.D
/-! MADE BY PROGRAM (witnessworld.py) out of the Statement's table words and the real class files: 9 classes; the members and pool entries that the words name. The judged class is class 1, her method 2. -/
namespace start1
open Jvm.ClassFile
def u (s : String) : CpInfo := .utf8 (stringToUtf16 s)
/-- a pool by its gaps: so many unusable entries, then the entry; so many at the end -/
def gap : Nat → List CpInfo → List CpInfo
  | 0, r => r
  | n + 1, r => .unusable :: gap n r
def poolList (es : List (Nat × CpInfo)) (last : Nat) : List CpInfo := es.foldr (fun e r => gap e.1 (e.2 :: r)) (gap last [])
def pool (es : List (Nat × CpInfo)) (last : Nat) : Array CpInfo := ⟨poolList es last⟩
def fileOf (pool : Array CpInfo) (this : Nat) (attrs : Array Attribute := #[]) (ms : Array MethodInfo := #[]) (fl : Nat := 33) (sup : Nat := 0) (ifs : Array Nat := #[]) (fds : Array FieldInfo := #[]) : ClassFile where
  minorVersion := 0
  majorVersion := 65
  constantPool := pool
  accessFlags := fl
  thisClass := this
  superClass := sup
  interfaces := ifs
  fields := fds
  methods := ms
  attributes := attrs
def plain (name : String) (sup : Option ClassId) : Class where
  name := name
  kind := .ordinary
  loader := none
  accessFlags := 33
  super := sup
  interfaces := #[]
  cf := none
  fields := #[]
  methods := #[]
  instanceTypes := #[]
  staticTypes := #[]
  resolved := #[]
  callSites := []
  init := .initialized
  statics := none
  mirror := none

def pool0 : Array CpInfo := pool [(5, u "<init>"), (0, u "()V"), (1, .class_ 10), (1, u "java/lang/Object")] 113

def k0c0 : Code := { maxStack := 0, maxLocals := 1, code := object_method_1_code, exceptionTable := #[], attributes := #[] }
def k0m0 : Method := { name := "<init>", desc := "()V", sig := { parameters := [], returnType := none }, accessFlags := 1, code := some k0c0 }
/-- java/lang/Object -/
def k0 : Class := { plain "java/lang/Object" none with
  accessFlags := 33
  interfaces := #[]
  cf := some (fileOf pool0 8 #[] #[{ accessFlags := 1, nameIndex := 5, descriptorIndex := 6, attributes := #[] }] 33 0 #[] #[])
  fields := #[]
  methods := #[k0m0]
  instanceTypes := #[]
  staticTypes := #[]
  resolved := Array.replicate 124 none
  statics := none }

def pool1 : Array CpInfo := pool [(2, .class_ 4), (1, u "java/lang/Object"), (0, u "<init>"), (0, u "()V"), (0, .double 4845873199050653696), (1, .long 9007199254740992), (1, .long 268435455), (1, .long 68719476735), (1, .class_ 16), (0, u "com/example/iridescence/iridescence/RandomSequence"), (0, .methodref 15 18), (0, .nameAndType 5 19), (0, u "(JJ)V"), (0, .methodref 15 21), (0, .nameAndType 22 23), (0, u "nextDouble"), (0, u "()D"), (0, .methodref 15 25), (0, .nameAndType 5 26), (0, u "(J)V"), (0, .double 4606131375998723001), (1, .methodref 30 31), (0, .class_ 32), (0, .nameAndType 33 34), (0, u "com/example/iridescence/iridescence/RandomSequenceNextDoublePinLaw"), (0, u "grid"), (0, u "(D)Z"), (3, u "law"), (0, u "(JJ)Z")] 2

def k1m0 : Method := { name := "<init>", desc := "()V", sig := { parameters := [], returnType := none }, accessFlags := 1, code := none }
def k1c1 : Code := { maxStack := 4, maxLocals := 6, code := method_2_code, exceptionTable := #[], attributes := #[] }
def k1m1 : Method := { name := "grid", desc := "(D)Z", sig := { parameters := [.double], returnType := some .boolean }, accessFlags := 10, code := some k1c1 }
def k1c2 : Code := { maxStack := 8, maxLocals := 27, code := code, exceptionTable := #[], attributes := #[] }
def k1m2 : Method := { name := "law", desc := "(JJ)Z", sig := { parameters := [.long, .long], returnType := some .boolean }, accessFlags := 9, code := some k1c2 }
/-- com/example/iridescence/iridescence/RandomSequenceNextDoublePinLaw -/
def k1 : Class := { plain "com/example/iridescence/iridescence/RandomSequenceNextDoublePinLaw" (some 0) with
  accessFlags := 49
  interfaces := #[]
  cf := some (fileOf pool1 30 #[] #[{ accessFlags := 1, nameIndex := 5, descriptorIndex := 6, attributes := #[] }, { accessFlags := 10, nameIndex := 33, descriptorIndex := 34, attributes := #[] }, { accessFlags := 9, nameIndex := 38, descriptorIndex := 39, attributes := #[] }] 49 2 #[] #[])
  fields := #[]
  methods := #[k1m0, k1m1, k1m2]
  instanceTypes := #[]
  staticTypes := #[]
  resolved := Array.replicate 42 none
  statics := none }

def pool2 : Array CpInfo := pool [(1, .methodref 2 3), (0, .class_ 4), (0, .nameAndType 5 6), (0, u "com/example/iridescence/iridescence/RandomSequence"), (0, u "<init>"), (0, u "(JJ)V"), (0, .methodref 8 9), (0, .class_ 10), (0, .nameAndType 5 11), (0, u "java/lang/Object"), (0, u "()V"), (0, .fieldref 2 13), (0, .nameAndType 14 15), (0, u "step"), (0, u "J"), (0, .long 11400714819323198485), (1, .long 13787848793156543929), (1, .long 10723151780598845931), (1, .double 4368491638549381120), (1, u "GOLDEN_GAMMA"), (1, u "UNIT"), (0, u "D"), (0, u "(J)V"), (2, u "nextDouble"), (0, u "()D")] 2

def k2c0 : Code := { maxStack := 5, maxLocals := 3, code := prog_52_method_1_code, exceptionTable := #[], attributes := #[] }
def k2m0 : Method := { name := "<init>", desc := "(J)V", sig := { parameters := [.long], returnType := none }, accessFlags := 0, code := some k2c0 }
def k2c1 : Code := { maxStack := 5, maxLocals := 5, code := prog_52_method_2_code, exceptionTable := #[], attributes := #[] }
def k2m1 : Method := { name := "<init>", desc := "(JJ)V", sig := { parameters := [.long, .long], returnType := none }, accessFlags := 0, code := some k2c1 }
def k2c2 : Code := { maxStack := 5, maxLocals := 3, code := prog_52_method_3_code, exceptionTable := #[], attributes := #[] }
def k2m2 : Method := { name := "nextDouble", desc := "()D", sig := { parameters := [], returnType := some .double }, accessFlags := 0, code := some k2c2 }
/-- com/example/iridescence/iridescence/RandomSequence -/
def k2 : Class := { plain "com/example/iridescence/iridescence/RandomSequence" (some 0) with
  accessFlags := 48
  interfaces := #[]
  cf := some (fileOf pool2 2 #[] #[{ accessFlags := 0, nameIndex := 5, descriptorIndex := 28, attributes := #[] }, { accessFlags := 0, nameIndex := 5, descriptorIndex := 6, attributes := #[] }, { accessFlags := 0, nameIndex := 31, descriptorIndex := 32, attributes := #[] }] 48 8 #[] #[{ accessFlags := 26, nameIndex := 24, descriptorIndex := 15, attributes := #[] }, { accessFlags := 26, nameIndex := 26, descriptorIndex := 27, attributes := #[] }, { accessFlags := 2, nameIndex := 14, descriptorIndex := 15, attributes := #[] }])
  fields := #[{ name := "GOLDEN_GAMMA", type := .long, accessFlags := 26, slot := 0, constantValue := 0 }, { name := "UNIT", type := .double, accessFlags := 26, slot := 1, constantValue := 0 }, { name := "step", type := .long, accessFlags := 2, slot := 0, constantValue := 0 }]
  methods := #[k2m0, k2m1, k2m2]
  instanceTypes := #[.long]
  staticTypes := #[.long, .double]
  resolved := Array.replicate 35 none
  statics := none }

def pool3 : Array CpInfo := pool [(1, u "java/lang/Cloneable"), (0, .class_ 1), (0, u "java/lang/Object"), (0, .class_ 3)] 3

/-- java/lang/Cloneable -/
def k3 : Class := { plain "java/lang/Cloneable" (some 0) with
  accessFlags := 1537
  interfaces := #[]
  cf := some (fileOf pool3 2 #[] #[] 1537 4 #[] #[])
  fields := #[]
  methods := #[]
  instanceTypes := #[]
  staticTypes := #[]
  resolved := Array.replicate 8 none
  statics := none }

def pool4 : Array CpInfo := pool [(1, u "java/io/Serializable"), (0, .class_ 1), (0, u "java/lang/Object"), (0, .class_ 3)] 3

/-- java/io/Serializable -/
def k4 : Class := { plain "java/io/Serializable" (some 0) with
  accessFlags := 1537
  interfaces := #[]
  cf := some (fileOf pool4 2 #[] #[] 1537 4 #[] #[])
  fields := #[]
  methods := #[]
  instanceTypes := #[]
  staticTypes := #[]
  resolved := Array.replicate 8 none
  statics := none }

/-- the primitive byte -/
def k5 : Class := { plain "byte" none with kind := .primitive 'B', accessFlags := 0x411 }
/-- [B -/
def k6 : Class := { plain "[B" (some 0) with kind := .array 5 .byte, interfaces := #[3, 4], accessFlags := 1041 }

/-- the primitive int -/
def k7 : Class := { plain "int" none with kind := .primitive 'I', accessFlags := 0x411 }
/-- [I -/
def k8 : Class := { plain "[I" (some 0) with kind := .array 7 .int, interfaces := #[3, 4], accessFlags := 1041 }

def heap : Heap := #[]
def classes : Array Class := #[k0, k1, k2, k3, k4, k5, k6, k7, k8]
def interned : List (Array UInt16 × Addr) := []
def slotsUsed : Nat := 0
def theMethod : MethodId := ⟨1, 2⟩
def args0 : Array Value := #[.long 5000000, .long 7]
def aboutOver (below : List Frame) : State where
  vm := { classes := classes, interned := interned.toArray }
  heap := heap
  slotsUsed := slotsUsed
  threads := #[{ frames := .invoking theMethod args0 :: below }]
def below0 : List Frame := [.native { method := ⟨0, 0⟩, args := #[] }]
def about1 : State := aboutOver below0
def p0 : Program := .bare "" "" ""
def e0 : Env := launch0.env 0 0 0
theorem w_frames : about1.frames = Frame.invoking theMethod args0 :: below0 := rfl
set_option maxRecDepth 65536 in
theorem w_args : argsFit about1.vm theMethod args0 = true := by decide +kernel
set_option maxRecDepth 65536 in
theorem w_heap : heapFits about1 = true := by decide +kernel
set_option maxRecDepth 65536 in
theorem w_runnable : about1.curStatus? = some .runnable := by decide +kernel
set_option maxRecDepth 65536 in
theorem w_alone : about1.alone = true := by decide +kernel
set_option maxRecDepth 65536 in
theorem w_named : about1.methodNamed? x = some theMethod := by decide +kernel
set_option maxRecDepth 65536 in
theorem w_hears : about1.hears theMethod below0 = true := by decide +kernel
set_option maxRecDepth 65536 in
theorem w_ripe : about1.ripe theMethod args0 below0 = true := by decide +kernel
theorem w_running : about1.status = .running := rfl
set_option maxRecDepth 65536 in
theorem w_room : about1.hasRoom e0.platform room_1 = true :=
  launch0.hasRoom_least _ room_1 (by decide +kernel) (by decide +kernel) (by decide +kernel) (by decide +kernel) (by decide +kernel) (by decide +kernel)
theorem allAtoms_all (ts : List Jvm.Cond) (a : Array Jvm.Value) (st : Jvm.State) : (allAtoms ts).before a st = ts.all (fun c => c.before a st) := by
  induction ts with
  | nil => rfl
  | cons c t ih =>
    show (Jvm.Cond.and c (allAtoms t)).before a st = _
    rw [Jvm.Cond.before_and, ih, List.all_cons]
def words1 : List Jvm.Cond := Jvm.Cond.code x code maxLocals ret :: tables_1
/-- a 'code' word, met by the world's own term for the bytes: nothing is compared byte by byte -/
theorem code_word {y : MethodName} {bytes : ByteArray} {mx : Nat} {rt : Option FieldType} {a : Array Value} {s : State} {m : MethodId} {meth : Method} {c : Code} (h1 : s.methodNamed? y = some m) (h2 : s.vm.method? m = some meth) (h3 : meth.code = some c) (h4 : c.code = bytes)
    (h5 : (c.maxLocals == mx && c.exceptionTable.isEmpty && decide (c.maxStack ≤ mostOperands) && decide (meth.sig.returnType = rt) && !meth.locks && decide (parseMethodDescriptor y.desc = some meth.sig)) = true) : (Jvm.Cond.code y bytes mx rt).before a s = true := by
  simp only [Bool.and_eq_true, beq_iff_eq, Bool.not_eq_true', decide_eq_true_eq] at h5
  obtain ⟨⟨⟨⟨⟨g1, g2⟩, g3⟩, g4⟩, g5⟩, g6⟩ := h5
  simp [Cond.before, Cond.holds, Cond.value, h1, h2, h3, h4, g1, g2, g3, g4, g5, g6]
def isCode : Jvm.Cond → Bool
  | .code _ _ _ _ => true
  | _ => false
theorem all_split {L : List Jvm.Cond} {P : Jvm.Cond → Bool} (h1 : L.all (fun c => isCode c || P c) = true) (h2 : ∀ c ∈ L.filter isCode, P c = true) : L.all P = true := by
  refine List.all_eq_true.mpr fun c hc => ?_
  have h := List.all_eq_true.mp h1 c hc
  rcases Bool.eq_false_or_eq_true (isCode c) with hi | hi
  · exact h2 c (List.mem_filter.mpr ⟨hc, hi⟩)
  · simpa [hi] using h
set_option maxRecDepth 65536 in
theorem w_c0 : (Jvm.Cond.code x code maxLocals ret).before args0 about1 = true := code_word (m := ⟨1, 2⟩) (meth := k1m2) (c := k1c2) (by decide +kernel) rfl rfl rfl (by decide +kernel)
set_option maxRecDepth 65536 in
theorem w_c1 : (Jvm.Cond.code ({ cls := "com/example/iridescence/iridescence/RandomSequence", name := "<init>", desc := "(JJ)V" } : Jvm.MethodName) prog_52_method_2_code (5 : Nat) (Option.none : Option Jvm.ClassFile.FieldType)).before args0 about1 = true := code_word (m := ⟨2, 1⟩) (meth := k2m1) (c := k2c1) (by decide +kernel) rfl rfl rfl (by decide +kernel)
set_option maxRecDepth 65536 in
theorem w_c2 : (Jvm.Cond.code ({ cls := "java/lang/Object", name := "<init>", desc := "()V" } : Jvm.MethodName) object_method_1_code (1 : Nat) (Option.none : Option Jvm.ClassFile.FieldType)).before args0 about1 = true := code_word (m := ⟨0, 0⟩) (meth := k0m0) (c := k0c0) (by decide +kernel) rfl rfl rfl (by decide +kernel)
set_option maxRecDepth 65536 in
theorem w_c3 : (Jvm.Cond.code ({ cls := "com/example/iridescence/iridescence/RandomSequence", name := "nextDouble", desc := "()D" } : Jvm.MethodName) prog_52_method_3_code (3 : Nat) (Option.some Jvm.ClassFile.FieldType.double)).before args0 about1 = true := code_word (m := ⟨2, 2⟩) (meth := k2m2) (c := k2c2) (by decide +kernel) rfl rfl rfl (by decide +kernel)
set_option maxRecDepth 65536 in
theorem w_c4 : (Jvm.Cond.code ({ cls := "com/example/iridescence/iridescence/RandomSequence", name := "<init>", desc := "(J)V" } : Jvm.MethodName) prog_52_method_1_code (3 : Nat) (Option.none : Option Jvm.ClassFile.FieldType)).before args0 about1 = true := code_word (m := ⟨2, 0⟩) (meth := k2m0) (c := k2c0) (by decide +kernel) rfl rfl rfl (by decide +kernel)
set_option maxRecDepth 65536 in
theorem w_c5 : (Jvm.Cond.code ({ cls := "com/example/iridescence/iridescence/RandomSequenceNextDoublePinLaw", name := "grid", desc := "(D)Z" } : Jvm.MethodName) method_2_code (6 : Nat) (Option.some Jvm.ClassFile.FieldType.boolean)).before args0 about1 = true := code_word (m := ⟨1, 1⟩) (meth := k1m1) (c := k1c1) (by decide +kernel) rfl rfl rfl (by decide +kernel)
def codes1 : List Jvm.Cond := [Jvm.Cond.code x code maxLocals ret, Jvm.Cond.code ({ cls := "com/example/iridescence/iridescence/RandomSequence", name := "<init>", desc := "(JJ)V" } : Jvm.MethodName) prog_52_method_2_code (5 : Nat) (Option.none : Option Jvm.ClassFile.FieldType), Jvm.Cond.code ({ cls := "java/lang/Object", name := "<init>", desc := "()V" } : Jvm.MethodName) object_method_1_code (1 : Nat) (Option.none : Option Jvm.ClassFile.FieldType), Jvm.Cond.code ({ cls := "com/example/iridescence/iridescence/RandomSequence", name := "nextDouble", desc := "()D" } : Jvm.MethodName) prog_52_method_3_code (3 : Nat) (Option.some Jvm.ClassFile.FieldType.double), Jvm.Cond.code ({ cls := "com/example/iridescence/iridescence/RandomSequence", name := "<init>", desc := "(J)V" } : Jvm.MethodName) prog_52_method_1_code (3 : Nat) (Option.none : Option Jvm.ClassFile.FieldType), Jvm.Cond.code ({ cls := "com/example/iridescence/iridescence/RandomSequenceNextDoublePinLaw", name := "grid", desc := "(D)Z" } : Jvm.MethodName) method_2_code (6 : Nat) (Option.some Jvm.ClassFile.FieldType.boolean)]
set_option maxRecDepth 65536 in
theorem codes_eq : words1.filter isCode = codes1 := rfl
theorem w_codes : ∀ c ∈ words1.filter isCode, c.before args0 about1 = true := by
  rw [codes_eq]
  intro c hc
  simp only [codes1, List.mem_cons, List.not_mem_nil, or_false] at hc
  rcases hc with rfl | rfl | rfl | rfl | rfl | rfl
  · exact w_c0
  · exact w_c1
  · exact w_c2
  · exact w_c3
  · exact w_c4
  · exact w_c5
set_option maxRecDepth 65536 in
theorem w_t1 : (words1.take 24).all (fun c => isCode c || c.before args0 about1) = true := by decide +kernel
set_option maxRecDepth 65536 in
theorem w_t2 : (words1.drop 24).all (fun c => isCode c || c.before args0 about1) = true := by decide +kernel
theorem w_tables : (allAtoms (Jvm.Cond.code x code maxLocals ret :: tables_1)).before args0 about1 = true := by
  rw [allAtoms_all]
  show words1.all (fun c => c.before args0 about1) = true
  refine all_split ?_ w_codes
  rw [← List.take_append_drop 24 words1, List.all_append, w_t1, w_t2]
  rfl
set_option maxRecDepth 65536 in
theorem w_case : (Jvm.Cond.and given_1 narrow_1).before args0 about1 = true := by decide +kernel
theorem w_applies : (headSpec (Jvm.Cond.code x code maxLocals ret :: tables_1) room_1).applies x e0.platform about1 = true :=
  (Spec.applies_iff w_frames).mpr ⟨w_running, w_runnable, w_alone, w_named, w_hears, w_ripe, w_room, w_tables⟩
theorem atStart : AtStart classFile x code maxLocals ret World_1 tables_1 room_1 Calls_1 rest_1 Pre_1 launch0 p0 e0 about1 theMethod args0 below0 :=
  ⟨lists_1, trivial, launch0.admits_env _ _ _, launch0.least_env, fairChoices_fair.cas, fairChoices_fair.clock, w_frames, w_args, w_heap, w_applies, trivial, trivial, w_case⟩
end start1
theorem witness_1 : WitnessClaimed_1 := ⟨start1.p0, start1.e0, start1.about1, start1.theMethod, start1.args0, start1.below0, start1.atStart⟩
end Jvm.Pilot.@@N@@
