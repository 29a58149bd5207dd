import JvmDerived
import JvmDerived.Pilot.@@N@@Statement
import JvmDerived.Pilot.@@N@@Code
set_option linter.unusedVariables false
set_option linter.unusedSimpArgs false
namespace Jvm.Pilot.@@N@@
open Jvm Jvm.ClassFile Sem Op Lib Jvm.Free Jvm.Stand Jvm.LawKit Jvm.RoadKit Bundle Jvm.Pilot.@@N@@.Jvm.D
/-! own layer 1: doubles as whole numbers of least units (2 to the -1074) -/
section OwnFp
open Jvm.FP Jvm.FP.Core Jvm.Free.Fl
/-- a power of two -/
def P2 (j : Nat) : Int := ((2 ^ j : Nat) : Int)
theorem P2_pos (j : Nat) : 0 < P2 j := Int.natCast_pos.mpr (Nat.two_pow_pos j)
theorem P2_add (i j : Nat) : P2 (i + j) = P2 i * P2 j := by unfold P2; rw [Nat.pow_add, Int.natCast_mul]
theorem P2_one64 : (one64 : Int) = P2 1074 := rfl
/-- the value of a double in least units -/
def Zv (a : UInt64) : Int := zval b64 (val64 a)
/-- some finite double has this value -/
def Rep (V : Int) : Prop := ∃ x : UInt64, DFin x ∧ Zv x = V
theorem own_qmax : b64.qmax = 971 := by decide
theorem own_signed_abs (c : Int) : signed (decide (c < 0)) c.natAbs = c := by
  unfold signed
  by_cases q : c < 0
  · simp [q]; omega
  · simp [q]; omega
theorem rep_core (s : Bool) {c j : Nat} (hc : c < 2 ^ 53) (hj : j ≤ 2045) : ∃ x : UInt64, DFin x ∧ Zv x = signed s (c * 2 ^ j) := by
  obtain ⟨c', q', h1, h2⟩ := round_exact (f := b64) good_b64 s (c := c) (q := (j : Int) - 1074) hc (by rw [qmin_b64]; omega) (by rw [own_qmax]; omega)
  refine ⟨of64 (round b64 (.fin s c ((j : Int) - 1074))), ⟨s, c', q', ?_⟩, ?_⟩
  · rw [val64_of64 (round_fits good_b64 _), h1]
  · unfold Zv
    rw [val64_of64 (round_fits good_b64 _), h1]
    show signed s (inUnits c' q' b64.qmin) = _
    rw [h2]
    unfold inUnits
    rw [show ((j : Int) - 1074 - b64.qmin).toNat = j by rw [qmin_b64]; omega]
theorem rep_mk (c : Int) (j : Nat) (hc : c.natAbs ≤ 2 ^ 53) (hj : j ≤ 2044) : Rep (c * P2 j) := by
  by_cases h : c.natAbs < 2 ^ 53
  · obtain ⟨x, h1, h2⟩ := rep_core (decide (c < 0)) h (j := j) (by omega)
    refine ⟨x, h1, h2.trans ?_⟩
    rw [signed_mul, own_signed_abs]; rfl
  · have h' : c.natAbs = 2 ^ 53 := by omega
    obtain ⟨x, h1, h2⟩ := rep_core (decide (c < 0)) (c := 2 ^ 52) (by decide) (j := j + 1) (by omega)
    refine ⟨x, h1, h2.trans ?_⟩
    have e : 2 ^ 52 * 2 ^ (j + 1) = c.natAbs * 2 ^ j := by
      rw [h', Nat.pow_add 2 j 1]
      generalize 2 ^ j = t
      omega
    rw [e, signed_mul, own_signed_abs]; rfl
theorem rep_of {V : Int} (c : Int) (j : Nat) (hc : c.natAbs ≤ 2 ^ 53) (hj : j ≤ 2044) (h : V = c * P2 j) : Rep V := h ▸ rep_mk c j hc hj
theorem rep_int (n : Int) (h : n.natAbs ≤ 2 ^ 53) : Rep (n * P2 1074) := rep_mk n 1074 h (by decide)
theorem rep_zero : Rep 0 := rep_of 0 0 (by decide) (by decide) (by simp)
theorem rep_self {x : UInt64} (h : DFin x) : Rep (Zv x) := ⟨x, h, rfl⟩
theorem rep_neg {V : Int} (h : Rep V) : Rep (-V) := by
  obtain ⟨x, hx, rfl⟩ := h
  obtain ⟨s, c, q, hv⟩ := hx
  refine ⟨Core.dneg x, ⟨!s, c, q, ?_⟩, ?_⟩
  · rw [Core.val64_dneg, hv]; rfl
  · unfold Zv; rw [Core.val64_dneg, zval_negate]
/-- between two finite values: finite -/
theorem fin_between {x : UInt64} (hn : val64 x ≠ .nan) {L H : Int} (hL : Rep L) (hH : Rep H) (h1 : L ≤ Zv x) (h2 : Zv x ≤ H) : DFin x := by
  cases hv : val64 x with
  | nan => exact absurd hv hn
  | fin s c q => exact ⟨s, c, q, hv⟩
  | inf s =>
    exfalso
    obtain ⟨y, hy, rfl⟩ := hL
    obtain ⟨z, hz, rfl⟩ := hH
    have a1 := hy.zval_lt
    have a2 := hz.zval_lt
    have e : Zv x = signed s (b64.tails * 2 ^ (b64.exps - 2)) := by unfold Zv; rw [hv]; rfl
    have b1 : signed (sgn (val64 y)) (zmag b64 (val64 y)) ≤ signed s (b64.tails * 2 ^ (b64.exps - 2)) := e ▸ h1
    have b2 : signed s (b64.tails * 2 ^ (b64.exps - 2)) ≤ signed (sgn (val64 z)) (zmag b64 (val64 z)) := e ▸ h2
    generalize b64.tails * 2 ^ (b64.exps - 2) = top at *
    generalize zmag b64 (val64 y) = my at *
    generalize zmag b64 (val64 z) = mz at *
    generalize sgn (val64 y) = sy at *
    generalize sgn (val64 z) = sz at *
    cases s <;> cases sy <;> cases sz <;> simp only [signed, if_true, Bool.false_eq_true, if_false] at b1 b2 <;> omega
theorem not_nan {x : UInt64} (h : Core.dIsNaN x = false) : val64 x ≠ .nan := (notNaN_iff x).mp h
theorem nn_of {x : UInt64} (h : DFin x) : NoNaN64 x := (fin64_core.mpr h).noNaN
/-! sums -/
theorem add_le {a b : UInt64} (ha : DFin a) (hb : DFin b) {V : Int} (hV : Rep V) (h : Zv a + Zv b ≤ V) : Zv (FP.dadd a b) ≤ V := by
  obtain ⟨x, hx, rfl⟩ := hV
  unfold Zv at h ⊢
  rw [val64_dadd]
  exact sum_le good_b64 ha hb (val64_fits a) (val64_fits b) (val64_fits x) hx.ne_nan h
theorem add_ge {a b : UInt64} (ha : DFin a) (hb : DFin b) {V : Int} (hV : Rep V) (h : V ≤ Zv a + Zv b) : V ≤ Zv (FP.dadd a b) := by
  obtain ⟨x, hx, rfl⟩ := hV
  unfold Zv at h ⊢
  rw [val64_dadd]
  exact sum_ge good_b64 ha hb (val64_fits a) (val64_fits b) (val64_fits x) hx.ne_nan h
theorem add_in {a b : UInt64} (ha : DFin a) (hb : DFin b) {L H : Int} (hL : Rep L) (hH : Rep H) (h1 : L ≤ Zv a + Zv b) (h2 : Zv a + Zv b ≤ H) : DFin (FP.dadd a b) ∧ L ≤ Zv (FP.dadd a b) ∧ Zv (FP.dadd a b) ≤ H :=
  ⟨fin_between (not_nan (Core.dadd_out ha.notNaN hb)) hL hH (add_ge ha hb hL h1) (add_le ha hb hH h2), add_ge ha hb hL h1, add_le ha hb hH h2⟩
theorem add_eq {a b : UInt64} (ha : DFin a) (hb : DFin b) {V : Int} (hV : Rep V) (h : Zv a + Zv b = V) : DFin (FP.dadd a b) ∧ Zv (FP.dadd a b) = V := by
  obtain ⟨h1, h2, h3⟩ := add_in ha hb hV hV (Int.le_of_eq h.symm) (Int.le_of_eq h)
  exact ⟨h1, Int.le_antisymm h3 h2⟩
/-! signs -/
theorem neg_eq {a : UInt64} (ha : DFin a) : DFin (FP.dneg a) ∧ Zv (FP.dneg a) = -Zv a := by
  obtain ⟨s, c, q, hv⟩ := ha
  constructor
  · exact ⟨!s, c, q, by rw [FP.val64_dneg, hv]; rfl⟩
  · unfold Zv; rw [FP.val64_dneg, zval_negate]
theorem cneg_eq {a : UInt64} (ha : DFin a) : DFin (Core.dneg a) ∧ Zv (Core.dneg a) = -Zv a := by
  obtain ⟨s, c, q, hv⟩ := ha
  constructor
  · exact ⟨!s, c, q, by rw [Core.val64_dneg, hv]; rfl⟩
  · unfold Zv; rw [Core.val64_dneg, zval_negate]
/-! differences -/
theorem sub_in {a b : UInt64} (ha : DFin a) (hb : DFin b) {L H : Int} (hL : Rep L) (hH : Rep H) (h1 : L ≤ Zv a - Zv b) (h2 : Zv a - Zv b ≤ H) : DFin (FP.dsub a b) ∧ L ≤ Zv (FP.dsub a b) ∧ Zv (FP.dsub a b) ≤ H := by
  obtain ⟨n1, n2⟩ := cneg_eq hb
  have e : FP.dsub a b = FP.dadd a (Core.dneg b) := Core.dsub_eq a b
  rw [e]
  exact add_in ha n1 hL hH (by rw [n2]; omega) (by rw [n2]; omega)
theorem sub_eq {a b : UInt64} (ha : DFin a) (hb : DFin b) {V : Int} (hV : Rep V) (h : Zv a - Zv b = V) : DFin (FP.dsub a b) ∧ Zv (FP.dsub a b) = V := by
  obtain ⟨h1, h2, h3⟩ := sub_in ha hb hV hV (Int.le_of_eq h.symm) (Int.le_of_eq h)
  exact ⟨h1, Int.le_antisymm h3 h2⟩
/-! products -/
theorem own_q2 : (b64.qmin - 2 * b64.qmin).toNat = 1074 := by rw [qmin_b64]; decide
theorem mul_le {a b : UInt64} (ha : DFin a) (hb : DFin b) {V : Int} (hV : Rep V) (h : Zv a * Zv b ≤ V * P2 1074) : Zv (FP.dmul a b) ≤ V := by
  obtain ⟨x, hx, rfl⟩ := hV
  obtain ⟨s, c, q, hva⟩ := ha
  obtain ⟨t, d, r, hvb⟩ := hb
  have fa := val64_fits a
  have fb := val64_fits b
  unfold Zv at h ⊢
  rw [hva] at fa h
  rw [hvb] at fb h
  obtain ⟨p1, p2, p3⟩ := product_units fa fb
  rw [val64_dmul, hva, hvb, p1]
  refine zval_round_le good_b64 (val64_fits x) hx.ne_nan (e0 := 2 * b64.qmin) (by rw [qmin_b64]; decide) p2 ?_
  rw [p3, signed_xor, own_q2]
  exact h
theorem mul_ge {a b : UInt64} (ha : DFin a) (hb : DFin b) {V : Int} (hV : Rep V) (h : V * P2 1074 ≤ Zv a * Zv b) : V ≤ Zv (FP.dmul a b) := by
  obtain ⟨x, hx, rfl⟩ := hV
  obtain ⟨s, c, q, hva⟩ := ha
  obtain ⟨t, d, r, hvb⟩ := hb
  have fa := val64_fits a
  have fb := val64_fits b
  unfold Zv at h ⊢
  rw [hva] at fa h
  rw [hvb] at fb h
  obtain ⟨p1, p2, p3⟩ := product_units fa fb
  rw [val64_dmul, hva, hvb, p1]
  refine zval_round_ge good_b64 (val64_fits x) hx.ne_nan (e0 := 2 * b64.qmin) (by rw [qmin_b64]; decide) p2 ?_
  rw [p3, signed_xor, own_q2]
  exact h
theorem mul_in {a b : UInt64} (ha : DFin a) (hb : DFin b) {L H : Int} (hL : Rep L) (hH : Rep H) (h1 : L * P2 1074 ≤ Zv a * Zv b) (h2 : Zv a * Zv b ≤ H * P2 1074) : DFin (FP.dmul a b) ∧ L ≤ Zv (FP.dmul a b) ∧ Zv (FP.dmul a b) ≤ H :=
  ⟨fin_between (not_nan (Core.dmul_out ha hb)) hL hH (mul_ge ha hb hL h1) (mul_le ha hb hH h2), mul_ge ha hb hL h1, mul_le ha hb hH h2⟩
theorem mul_eq {a b : UInt64} (ha : DFin a) (hb : DFin b) {V : Int} (hV : Rep V) (h : Zv a * Zv b = V * P2 1074) : DFin (FP.dmul a b) ∧ Zv (FP.dmul a b) = V := by
  obtain ⟨h1, h2, h3⟩ := mul_in ha hb hV hV (Int.le_of_eq h.symm) (Int.le_of_eq h)
  exact ⟨h1, Int.le_antisymm h3 h2⟩
/-! quotients by a positive number -/
theorem own_sgn_le {s t : Bool} {A V B r : Nat} (hB : 0 < B) (hle : A ≤ V * B → r ≤ V) (hge : V * B ≤ A → V ≤ r) (h : signed s A ≤ signed t V * (B : Int)) : signed s r ≤ signed t V := by
  rw [← signed_mul] at h
  have hz : V * B = 0 → V = 0 := fun q => by rcases Nat.mul_eq_zero.mp q with q | q <;> omega
  generalize V * B = vb at *
  cases s <;> cases t <;> simp only [signed, if_true, Bool.false_eq_true, if_false] at h ⊢
  · have := hle (by omega); omega
  · have := hle (by omega); have := hz (by omega); omega
  · omega
  · have := hge (by omega); omega
theorem own_sgn_ge {s t : Bool} {A V B r : Nat} (hB : 0 < B) (hle : A ≤ V * B → r ≤ V) (hge : V * B ≤ A → V ≤ r) (h : signed t V * (B : Int) ≤ signed s A) : signed t V ≤ signed s r := by
  rw [← signed_mul] at h
  have hz : V * B = 0 → V = 0 := fun q => by rcases Nat.mul_eq_zero.mp q with q | q <;> omega
  generalize V * B = vb at *
  cases s <;> cases t <;> simp only [signed, if_true, Bool.false_eq_true, if_false] at h ⊢
  · have := hge (by omega); omega
  · omega
  · have := hle (by omega); have := hz (by omega); omega
  · have := hle (by omega); omega
theorem div_core {a b : UInt64} (ha : DFin a) (hb : DFin b) (hp : 0 < Zv b) (x : UInt64) (hx : DFin x) :
    ∃ (s : Bool) (A B : Nat), (B : Int) = Zv b ∧ signed s A = Zv a * P2 1074 ∧ 0 < B ∧ ∃ r, Zv (FP.ddiv a b) = signed s r ∧ (A ≤ zmag b64 (val64 x) * B → r ≤ zmag b64 (val64 x)) ∧ (zmag b64 (val64 x) * B ≤ A → zmag b64 (val64 x) ≤ r) := by
  obtain ⟨s, c, q, hva⟩ := ha
  obtain ⟨t, d, r, hvb⟩ := hb
  have fa := val64_fits a
  have fb := val64_fits b
  rw [hva] at fa
  rw [hvb] at fb
  have f1 := fa.2.1
  have f2 := fb.2.1
  have zb : Zv b = signed t (inUnits d r b64.qmin) := by unfold Zv; rw [hvb]; rfl
  have hd : 0 < d := by
    rcases Nat.eq_zero_or_pos d with q0 | q0
    · rw [zb, q0] at hp
      have : inUnits 0 r b64.qmin = 0 := Nat.zero_mul _
      rw [this, signed_zero] at hp; omega
    · exact q0
  have ht : t = false := by
    cases t with
    | false => rfl
    | true => rw [zb] at hp; simp only [signed, if_true] at hp; omega
  subst ht
  have hB : 0 < inUnits d r b64.qmin := Nat.mul_pos hd (Nat.two_pow_pos _)
  have e1 : inUnits c (q - r) (2 * b64.qmin - r) = inUnits c q b64.qmin * 2 ^ 1074 := by
    unfold inUnits
    rw [Nat.mul_assoc, ← Nat.pow_add]
    rw [qmin_b64] at *
    congr 2; omega
  have e2 : 2 ^ (b64.qmin - (2 * b64.qmin - r)).toNat * d = inUnits d r b64.qmin := by
    unfold inUnits
    rw [Nat.mul_comm]; congr 2; omega
  have hv : val64 (FP.ddiv a b) = roundRatio b64 s c d (q - r) := by
    rw [val64_ddiv, hva, hvb]
    show (if d = 0 then _ else roundRatio b64 (s != false) c d (q - r)) = _
    rw [if_neg (by omega)]
    cases s <;> rfl
  refine ⟨s, inUnits c q b64.qmin * 2 ^ 1074, inUnits d r b64.qmin, ?_, ?_, hB, zmag b64 (roundRatio b64 s c d (q - r)), ?_, ?_, ?_⟩
  · rw [zb]; simp only [signed, Bool.false_eq_true, if_false]
  · unfold Zv; rw [signed_mul, hva]; rfl
  · unfold Zv; rw [hv]; show signed (sgn _) _ = _; rw [sgn_roundRatio]
  · intro h
    refine zmag_roundRatio_le good_b64 hd (val64_fits x) hx.ne_nan (e0 := 2 * b64.qmin - r) (by have := qmin_b64; omega) (by have := qmin_b64; omega) ?_
    rw [e1, Nat.mul_assoc, e2]; exact h
  · intro h
    refine zmag_roundRatio_ge good_b64 hd (val64_fits x) (e0 := 2 * b64.qmin - r) (by have := qmin_b64; omega) (by have := qmin_b64; omega) ?_
    rw [e1, Nat.mul_assoc, e2]; exact h
theorem div_le {a b : UInt64} (ha : DFin a) (hb : DFin b) (hp : 0 < Zv b) {V : Int} (hV : Rep V) (h : Zv a * P2 1074 ≤ V * Zv b) : Zv (FP.ddiv a b) ≤ V := by
  obtain ⟨x, hx, rfl⟩ := hV
  obtain ⟨s, A, B, h1, h2, h3, r, h4, h5, h6⟩ := div_core ha hb hp x hx
  rw [h4]
  rw [← h2, ← h1] at h
  exact own_sgn_le h3 h5 h6 h
theorem div_ge {a b : UInt64} (ha : DFin a) (hb : DFin b) (hp : 0 < Zv b) {V : Int} (hV : Rep V) (h : V * Zv b ≤ Zv a * P2 1074) : V ≤ Zv (FP.ddiv a b) := by
  obtain ⟨x, hx, rfl⟩ := hV
  obtain ⟨s, A, B, h1, h2, h3, r, h4, h5, h6⟩ := div_core ha hb hp x hx
  rw [h4]
  rw [← h2, ← h1] at h
  exact own_sgn_ge h3 h5 h6 h
theorem pos_nz {b : UInt64} (hp : 0 < Zv b) : ¬ DZero b := fun q => by
  have := q.zval
  unfold Zv at hp
  omega
theorem div_in {a b : UInt64} (ha : DFin a) (hb : DFin b) (hp : 0 < Zv b) {L H : Int} (hL : Rep L) (hH : Rep H) (h1 : L * Zv b ≤ Zv a * P2 1074) (h2 : Zv a * P2 1074 ≤ H * Zv b) : DFin (FP.ddiv a b) ∧ L ≤ Zv (FP.ddiv a b) ∧ Zv (FP.ddiv a b) ≤ H :=
  ⟨fin_between (not_nan (Core.ddiv_out ha.notNaN hb (pos_nz hp))) hL hH (div_ge ha hb hp hL h1) (div_le ha hb hp hH h2), div_ge ha hb hp hL h1, div_le ha hb hp hH h2⟩
theorem div_eq {a b : UInt64} (ha : DFin a) (hb : DFin b) (hp : 0 < Zv b) {V : Int} (hV : Rep V) (h : Zv a * P2 1074 = V * Zv b) : DFin (FP.ddiv a b) ∧ Zv (FP.ddiv a b) = V := by
  obtain ⟨h1, h2, h3⟩ := div_in ha hb hp hV hV (Int.le_of_eq h.symm) (Int.le_of_eq h)
  exact ⟨h1, Int.le_antisymm h3 h2⟩
/-! whole numbers -/
theorem l2d_in {n : Int64} {L H : Int} (hL : Rep L) (hH : Rep H) (h1 : L ≤ n.toInt * P2 1074) (h2 : n.toInt * P2 1074 ≤ H) : L ≤ Zv (FP.l2d n) ∧ Zv (FP.l2d n) ≤ H := by
  obtain ⟨x, hx, rfl⟩ := hL
  obtain ⟨y, hy, rfl⟩ := hH
  exact ⟨l2d_zval_ge hx.ne_nan h1, l2d_zval_le hy.ne_nan h2⟩
theorem l2d_dfin (n : Int64) : DFin (FP.l2d n) := Core.l2d_fin n
theorem i2d_dfin (n : Int32) : DFin (FP.i2d n) := Core.i2d_fin n
theorem l2d_rep {n : Int64} (h : Rep (n.toInt * P2 1074)) : Zv (FP.l2d n) = n.toInt * P2 1074 := by
  obtain ⟨h1, h2⟩ := l2d_in h h (Int.le_refl _) (Int.le_refl _)
  exact Int.le_antisymm h2 h1
theorem l2d_eq {n : Int64} (h : n.toInt.natAbs ≤ 2 ^ 53) : Zv (FP.l2d n) = n.toInt * P2 1074 := l2d_rep (rep_int _ h)
theorem i2d_eq (n : Int32) : Zv (FP.i2d n) = n.toInt * P2 1074 := by
  rw [i2d_w, l2d_eq (by rw [Int32.toInt_toInt64]; have := int32_abs n; omega), Int32.toInt_toInt64]
theorem d2l_eq {a : UInt64} (ha : DFin a) {n : Int} (h : Zv a = n * P2 1074) (h1 : -9223372036854775808 ≤ n) (h2 : n < 9223372036854775808) : (FP.d2l a).toInt = n := by
  have e := d2l_val ha.ne_nan
  have z : signed (sgn (val64 a)) (zmag b64 (val64 a)) = n * (one64 : Int) := h
  have hp := one64_pos
  have hm : zmag b64 (val64 a) = n.natAbs * one64 := by
    have q := congrArg Int.natAbs z
    rw [natAbs_signed, Int.natAbs_mul] at q
    exact q
  have hs : signed (sgn (val64 a)) n.natAbs = n := by
    rw [hm, signed_mul] at z
    exact Int.eq_of_mul_eq_mul_right (by omega) z
  rw [hm, Nat.mul_div_cancel _ hp, hs] at e
  show (Core.d2l a).toInt = n
  rw [e]; omega
/-! comparisons -/
theorem cmp_lt {a b : UInt64} (ha : DFin a) (hb : DFin b) (o : CmpOp) (h : Zv a < Zv b) : cmpValue (FP.dcmp a b) o = -1 := by
  rw [show FP.dcmp a b = some .lt from dcmp_lt.mpr ⟨ha.ne_nan, hb.ne_nan, h⟩]; rfl
theorem cmp_eq {a b : UInt64} (ha : DFin a) (hb : DFin b) (o : CmpOp) (h : Zv a = Zv b) : cmpValue (FP.dcmp a b) o = 0 := by
  rw [show FP.dcmp a b = some .eq from dcmp_eq.mpr ⟨ha.ne_nan, hb.ne_nan, h⟩]; rfl
theorem cmp_gt {a b : UInt64} (ha : DFin a) (hb : DFin b) (o : CmpOp) (h : Zv b < Zv a) : cmpValue (FP.dcmp a b) o = 1 := by
  rw [show FP.dcmp a b = some .gt from dcmp_gt.mpr ⟨ha.ne_nan, hb.ne_nan, h⟩]; rfl
/-! constants -/
theorem zero_fin : DFin 0 := (fin_bits _).mpr (by decide)
theorem zero_z : Zv 0 = 0 := zval64_zero
theorem one_fin : DFin 4607182418800017408 := (fin_bits _).mpr (by decide)
theorem one_z : Zv 4607182418800017408 = 1 * P2 1074 := by unfold Zv P2; decide +kernel
end OwnFp

/-! own layer 2: walking forward -/
section OwnGo
open Jvm.Free.Fl
variable {p : Program} {l : Launch} {e : Env} {R : Room} {s : State} {m : MethodId} {args : Array Value} {below : List Frame} {meth : Method} {c : Code} {T : State} {locs : List Loc} {cells slots : Nat} {Q : Outcome → State → Prop}
/-- from here the run comes to an end that Q allows -/
def Go (p : Program) (e : Env) (below : List Frame) (Q : Outcome → State → Prop) (S : State) : Prop :=
  ∃ s₂ o, Steps p.tables e below S s₂ ∧ s₂.status = .running ∧ Ended s₂ below o ∧ Q o s₂
theorem Go.of {S S' : State} (h : ∀ t, Steps p.tables e below S' t → Steps p.tables e below S t) (g : Go p e below Q S') : Go p e below Q S := by
  obtain ⟨s₂, o, h1, h2⟩ := g
  exact ⟨s₂, o, h _ h1, h2⟩
theorem Go.tr {S S' : State} (h : Steps p.tables e below S S') (g : Go p e below Q S') : Go p e below Q S := Go.of (fun _ k => h.trans k) g
abbrev Ret (s : State) (Qv : Option Value → Heap → List Loc → Prop) (kc ks : Nat) : Outcome → State → Prop := fun o U' => ∃ v L, o = .returned v ∧ Qv v U'.heap L ∧ FrameEnd s o U' L kc ks
theorem Go.done (X : Stand p l e R s m args below meth c T locs cells slots) {g : JFrame} {v : Option Value} (hv : meth.sig.returnType = none → v = none) (hlocks : meth.locks = false)
    (hst : ∀ fs, (∀ (f : JFrame) (acts : List Action), f.method = m → f.locked = none → f.entered = [] → (doReturn e (T.setTop f) acts v).1 = T.setFrames fs) → Steps p.tables e below (T.setTop g) (T.setFrames fs))
    {Qv : Option Value → Heap → List Loc → Prop} {kc ks : Nat} (hc : cells ≤ kc) (hk : slots ≤ ks) (hq : Qv v T.heap locs) : Go p e below (Ret s Qv kc ks) (T.setTop g) := by
  obtain ⟨fs, hr, hrun, hended, hW, hsame⟩ := X.leave (v := v) hv hlocks
  exact ⟨_, _, hst fs hr, hrun, hended, v, locs, rfl, hq, ⟨_, rfl⟩, hW, hsame.mono hc hk⟩
theorem Go.retV (X : Stand p l e R s m args below meth c T locs cells slots) (hx : p.tables.exec = Jvm.exec) {pc : Nat} {Ls : Array Slot} (hret : meth.sig.returnType = none) (hlk : meth.locks = false) (hd : decode c.code pc = .ok (.return_, 1))
    {Qv : Option Value → Heap → List Loc → Prop} {kc ks : Nat} (hc : cells ≤ kc) (hk : slots ≤ ks) (hq : Qv none T.heap locs) : Go p e below (Ret s Qv kc ks) (T.setTop (mkF m pc Ls [])) :=
  Go.done X (fun _ => rfl) hlk (fun _ hr => X.returnOut hx hret hd hr) hc hk hq
theorem Go.retL (X : Stand p l e R s m args below meth c T locs cells slots) (hx : p.tables.exec = Jvm.exec) {pc : Nat} {Ls : Array Slot} {st : List Value} {z : Int64} (hret : meth.sig.returnType = some .long) (hlk : meth.locks = false) (hd : decode c.code pc = .ok (.lreturn, 1))
    {Qv : Option Value → Heap → List Loc → Prop} {kc ks : Nat} (hc : cells ≤ kc) (hk : slots ≤ ks) (hq : Qv (some (.long z)) T.heap locs) : Go p e below (Ret s Qv kc ks) (T.setTop (mkF m pc Ls ((.long z) :: st))) :=
  Go.done X (fun h => by rw [hret] at h; cases h) hlk (fun _ hr => retOut X hx hret rfl (Or.inr (Or.inl ⟨rfl, rfl, z, rfl⟩)) hd hr) hc hk hq
theorem Go.retD (X : Stand p l e R s m args below meth c T locs cells slots) (hx : p.tables.exec = Jvm.exec) {pc : Nat} {Ls : Array Slot} {st : List Value} {z : UInt64} (hret : meth.sig.returnType = some .double) (hlk : meth.locks = false) (hd : decode c.code pc = .ok (.dreturn, 1))
    {Qv : Option Value → Heap → List Loc → Prop} {kc ks : Nat} (hc : cells ≤ kc) (hk : slots ≤ ks) (hq : Qv (some (.double z)) T.heap locs) : Go p e below (Ret s Qv kc ks) (T.setTop (mkF m pc Ls ((.double z) :: st))) :=
  Go.done X (fun h => by rw [hret] at h; cases h) hlk (fun _ hr => retOut X hx hret rfl (Or.inr (Or.inr (Or.inl ⟨rfl, rfl, z, rfl⟩))) hd hr) hc hk hq
theorem Go.retF (X : Stand p l e R s m args below meth c T locs cells slots) (hx : p.tables.exec = Jvm.exec) {pc : Nat} {Ls : Array Slot} {st : List Value} {z : UInt32} (hret : meth.sig.returnType = some .float) (hlk : meth.locks = false) (hd : decode c.code pc = .ok (.freturn, 1))
    {Qv : Option Value → Heap → List Loc → Prop} {kc ks : Nat} (hc : cells ≤ kc) (hk : slots ≤ ks) (hq : Qv (some (.float z)) T.heap locs) : Go p e below (Ret s Qv kc ks) (T.setTop (mkF m pc Ls ((.float z) :: st))) :=
  Go.done X (fun h => by rw [hret] at h; cases h) hlk (fun _ hr => retOut X hx hret rfl (Or.inr (Or.inr (Or.inr (Or.inl ⟨rfl, rfl, z, rfl⟩)))) hd hr) hc hk hq
theorem Go.retI (X : Stand p l e R s m args below meth c T locs cells slots) (hx : p.tables.exec = Jvm.exec) {pc : Nat} {Ls : Array Slot} {st : List Value} {z : Int32} (hret : meth.sig.returnType = some .int) (hlk : meth.locks = false) (hd : decode c.code pc = .ok (.ireturn, 1))
    {Qv : Option Value → Heap → List Loc → Prop} {kc ks : Nat} (hc : cells ≤ kc) (hk : slots ≤ ks) (hq : Qv (some (.int z)) T.heap locs) : Go p e below (Ret s Qv kc ks) (T.setTop (mkF m pc Ls ((.int z) :: st))) :=
  Go.done X (fun h => by rw [hret] at h; cases h) hlk (fun _ hr => retOut X hx hret rfl (Or.inl ⟨rfl, Or.inl rfl, z, rfl⟩) hd hr) hc hk hq
theorem Go.retZ (X : Stand p l e R s m args below meth c T locs cells slots) (hx : p.tables.exec = Jvm.exec) {pc : Nat} {Ls : Array Slot} {st : List Value} {z : Int32} (hret : meth.sig.returnType = some .boolean) (hlk : meth.locks = false) (hd : decode c.code pc = .ok (.ireturn, 1)) (hz : z = 0 ∨ z = 1)
    {Qv : Option Value → Heap → List Loc → Prop} {kc ks : Nat} (hc : cells ≤ kc) (hk : slots ≤ ks) (hq : Qv (some (.int z)) T.heap locs) : Go p e below (Ret s Qv kc ks) (T.setTop (mkF m pc Ls ((.int z) :: st))) :=
  Go.done X (fun h => by rw [hret] at h; cases h) hlk (fun _ hr => retOut X hx hret (by rcases hz with rfl | rfl <;> rfl) (Or.inl ⟨rfl, Or.inr (Or.inl rfl), z, rfl⟩) hd hr) hc hk hq
theorem Go.retA (X : Stand p l e R s m args below meth c T locs cells slots) (hx : p.tables.exec = Jvm.exec) {pc : Nat} {Ls : Array Slot} {st : List Value} {v : Value} {t : FieldType} (hret : meth.sig.returnType = some t) (hlk : meth.locks = false) (hd : decode c.code pc = .ok (.areturn, 1)) (ht : t.isReference = true) (hv : v.isRef = true) (hn : narrow t v = v)
    {Qv : Option Value → Heap → List Loc → Prop} {kc ks : Nat} (hc : cells ≤ kc) (hk : slots ≤ ks) (hq : Qv (some v) T.heap locs) : Go p e below (Ret s Qv kc ks) (T.setTop (mkF m pc Ls (v :: st))) :=
  Go.done X (fun h => by rw [hret] at h; cases h) hlk (fun _ hr => retOut X hx hret hn (Or.inr (Or.inr (Or.inr (Or.inr ⟨rfl, ht, hv⟩)))) hd hr) hc hk hq
theorem enter {l : Launch} {Z : State} {y : MethodName} {bytes : ByteArray} {maxL : Nat} {ret : Option FieldType} {ws : List Jvm.Cond} {rm : Room} {as' : Array Value} {h0 : Heap} {Qv : Option Value → Heap → List Loc → Prop} {Ls : Array Slot} {kc ks : Nat}
    (hpn : plainFor y = true) (hef : ∀ m, entryFrame m as' maxL = mkF m 0 Ls [])
    (body : ∀ (p : Program) (e : Env) (s : State) (m : MethodId) (below : List Frame) (meth : Method) (c : Code) (s₁ : State), p.tables.exec = Jvm.exec → c.code = bytes → c.maxLocals = maxL → s.vm.findClass y.cls = some m.cls → meth.name = y.name → meth.sig.returnType = ret → meth.locks = false → Z.Warmed39 s.vm →
      Stand p l e rm s m as' below meth c s₁ [] 0 0 → s₁.heap = h0 → Go p e below (Ret s Qv kc ks) (s₁.setTop (mkF m 0 Ls []))) :
    MetFree l y (head1 (Jvm.Cond.code y bytes maxL ret :: ws) rm) (fun a U => a = as' ∧ Z.Warmed39 U.vm ∧ U.heap = h0) (fun _ _ _ _ _ => True) (fun _ U o U' => ∃ v L, o = .returned v ∧ Qv v U'.heap L ∧ FrameEnd U o U' L kc ks) := by
  refine MetFree.of_bodySF hpn hisR ?_
  intro p e s m args below meth c s₁ Bd hml0 hP hK
  obtain ⟨rfl, hZ, hh⟩ := hP
  have e0 : s₁.heap = h0 := by rw [← hh, Bd.state]; rfl
  obtain ⟨s₂, o, h1, h2, h3, h4⟩ := body p e s m below meth c s₁ Bd.exec Bd.bytes hml0 (findClass_of_methodNamed Bd.named) (name_of_methodNamed Bd.named Bd.method).1 Bd.returns (BodyLoose.notSynchronized Bd) hZ (Stand.of_body Bd) e0
  exact ⟨s₂, o, castTop (hef m) h1, h2, h3, h4⟩
theorem Go.iload (h : At T m c below) (hx : p.tables.exec = Jvm.exec) {pc q : Nat} {Ls : Array Slot} {st : List Value} {k : Nat} {v : Int32} (hd : decode c.code pc = .ok (.iload k, 2)) (hl : Ls[k]? = some (.val (.int v))) (hq : pc + 2 = q) (g : Go p e below Q (T.setTop (mkF m q Ls (.int v :: st)))) : Go p e below Q (T.setTop (mkF m pc Ls st)) := by
  subst hq; exact Go.of (fun _ r => XS.iload h hx rfl hd hl r) g
theorem Go.iloadN (h : At T m c below) (hx : p.tables.exec = Jvm.exec) {pc q : Nat} {Ls : Array Slot} {st : List Value} {k : Fin 4} {v : Int32} (hd : decode c.code pc = .ok (.iload_n k, 1)) (hl : Ls[k.val]? = some (.val (.int v))) (hq : pc + 1 = q) (g : Go p e below Q (T.setTop (mkF m q Ls (.int v :: st)))) : Go p e below Q (T.setTop (mkF m pc Ls st)) := by
  subst hq; exact Go.of (fun _ r => XS.iloadN h hx rfl hd hl r) g
theorem Go.istore (h : At T m c below) (hx : p.tables.exec = Jvm.exec) {pc q : Nat} {Ls : Array Slot} {st : List Value} {k : Nat} {v : Int32} {l2 : Array Slot} (hd : decode c.code pc = .ok (.istore k, 2)) (hl : storeLocals Ls k (.int v) = some l2) (hq : pc + 2 = q) (g : Go p e below Q (T.setTop (mkF m q l2 st))) : Go p e below Q (T.setTop (mkF m pc Ls (.int v :: st))) := by
  subst hq; exact Go.of (fun _ r => XS.istore h hx rfl hd rfl hl r) g
theorem Go.istoreN (h : At T m c below) (hx : p.tables.exec = Jvm.exec) {pc q : Nat} {Ls : Array Slot} {st : List Value} {k : Fin 4} {v : Int32} {l2 : Array Slot} (hd : decode c.code pc = .ok (.istore_n k, 1)) (hl : storeLocals Ls k.val (.int v) = some l2) (hq : pc + 1 = q) (g : Go p e below Q (T.setTop (mkF m q l2 st))) : Go p e below Q (T.setTop (mkF m pc Ls (.int v :: st))) := by
  subst hq; exact Go.of (fun _ r => XS.istoreN h hx rfl hd rfl hl r) g
theorem Go.lload (h : At T m c below) (hx : p.tables.exec = Jvm.exec) {pc q : Nat} {Ls : Array Slot} {st : List Value} {k : Nat} {v : Int64} (hd : decode c.code pc = .ok (.lload k, 2)) (hl : Ls[k]? = some (.val (.long v))) (hq : pc + 2 = q) (g : Go p e below Q (T.setTop (mkF m q Ls (.long v :: st)))) : Go p e below Q (T.setTop (mkF m pc Ls st)) := by
  subst hq; exact Go.of (fun _ r => XS.lload h hx rfl hd hl r) g
theorem Go.lloadN (h : At T m c below) (hx : p.tables.exec = Jvm.exec) {pc q : Nat} {Ls : Array Slot} {st : List Value} {k : Fin 4} {v : Int64} (hd : decode c.code pc = .ok (.lload_n k, 1)) (hl : Ls[k.val]? = some (.val (.long v))) (hq : pc + 1 = q) (g : Go p e below Q (T.setTop (mkF m q Ls (.long v :: st)))) : Go p e below Q (T.setTop (mkF m pc Ls st)) := by
  subst hq; exact Go.of (fun _ r => XS.lloadN h hx rfl hd hl r) g
theorem Go.lstore (h : At T m c below) (hx : p.tables.exec = Jvm.exec) {pc q : Nat} {Ls : Array Slot} {st : List Value} {k : Nat} {v : Int64} {l2 : Array Slot} (hd : decode c.code pc = .ok (.lstore k, 2)) (hl : storeLocals Ls k (.long v) = some l2) (hq : pc + 2 = q) (g : Go p e below Q (T.setTop (mkF m q l2 st))) : Go p e below Q (T.setTop (mkF m pc Ls (.long v :: st))) := by
  subst hq; exact Go.of (fun _ r => XS.lstore h hx rfl hd rfl hl r) g
theorem Go.lstoreN (h : At T m c below) (hx : p.tables.exec = Jvm.exec) {pc q : Nat} {Ls : Array Slot} {st : List Value} {k : Fin 4} {v : Int64} {l2 : Array Slot} (hd : decode c.code pc = .ok (.lstore_n k, 1)) (hl : storeLocals Ls k.val (.long v) = some l2) (hq : pc + 1 = q) (g : Go p e below Q (T.setTop (mkF m q l2 st))) : Go p e below Q (T.setTop (mkF m pc Ls (.long v :: st))) := by
  subst hq; exact Go.of (fun _ r => XS.lstoreN h hx rfl hd rfl hl r) g
theorem Go.dload (h : At T m c below) (hx : p.tables.exec = Jvm.exec) {pc q : Nat} {Ls : Array Slot} {st : List Value} {k : Nat} {v : UInt64} (hd : decode c.code pc = .ok (.dload k, 2)) (hl : Ls[k]? = some (.val (.double v))) (hq : pc + 2 = q) (g : Go p e below Q (T.setTop (mkF m q Ls (.double v :: st)))) : Go p e below Q (T.setTop (mkF m pc Ls st)) := by
  subst hq; exact Go.of (fun _ r => XS.dload h hx rfl hd hl r) g
theorem Go.dloadN (h : At T m c below) (hx : p.tables.exec = Jvm.exec) {pc q : Nat} {Ls : Array Slot} {st : List Value} {k : Fin 4} {v : UInt64} (hd : decode c.code pc = .ok (.dload_n k, 1)) (hl : Ls[k.val]? = some (.val (.double v))) (hq : pc + 1 = q) (g : Go p e below Q (T.setTop (mkF m q Ls (.double v :: st)))) : Go p e below Q (T.setTop (mkF m pc Ls st)) := by
  subst hq; exact Go.of (fun _ r => XS.dloadN h hx rfl hd hl r) g
theorem Go.dstore (h : At T m c below) (hx : p.tables.exec = Jvm.exec) {pc q : Nat} {Ls : Array Slot} {st : List Value} {k : Nat} {v : UInt64} {l2 : Array Slot} (hd : decode c.code pc = .ok (.dstore k, 2)) (hl : storeLocals Ls k (.double v) = some l2) (hq : pc + 2 = q) (g : Go p e below Q (T.setTop (mkF m q l2 st))) : Go p e below Q (T.setTop (mkF m pc Ls (.double v :: st))) := by
  subst hq; exact Go.of (fun _ r => XS.dstore h hx rfl hd rfl hl r) g
theorem Go.dstoreN (h : At T m c below) (hx : p.tables.exec = Jvm.exec) {pc q : Nat} {Ls : Array Slot} {st : List Value} {k : Fin 4} {v : UInt64} {l2 : Array Slot} (hd : decode c.code pc = .ok (.dstore_n k, 1)) (hl : storeLocals Ls k.val (.double v) = some l2) (hq : pc + 1 = q) (g : Go p e below Q (T.setTop (mkF m q l2 st))) : Go p e below Q (T.setTop (mkF m pc Ls (.double v :: st))) := by
  subst hq; exact Go.of (fun _ r => XS.dstoreN h hx rfl hd rfl hl r) g
theorem Go.fload (h : At T m c below) (hx : p.tables.exec = Jvm.exec) {pc q : Nat} {Ls : Array Slot} {st : List Value} {k : Nat} {v : UInt32} (hd : decode c.code pc = .ok (.fload k, 2)) (hl : Ls[k]? = some (.val (.float v))) (hq : pc + 2 = q) (g : Go p e below Q (T.setTop (mkF m q Ls (.float v :: st)))) : Go p e below Q (T.setTop (mkF m pc Ls st)) := by
  subst hq; exact Go.of (fun _ r => XS.fload h hx rfl hd hl r) g
theorem Go.floadN (h : At T m c below) (hx : p.tables.exec = Jvm.exec) {pc q : Nat} {Ls : Array Slot} {st : List Value} {k : Fin 4} {v : UInt32} (hd : decode c.code pc = .ok (.fload_n k, 1)) (hl : Ls[k.val]? = some (.val (.float v))) (hq : pc + 1 = q) (g : Go p e below Q (T.setTop (mkF m q Ls (.float v :: st)))) : Go p e below Q (T.setTop (mkF m pc Ls st)) := by
  subst hq; exact Go.of (fun _ r => XS.floadN h hx rfl hd hl r) g
theorem Go.fstore (h : At T m c below) (hx : p.tables.exec = Jvm.exec) {pc q : Nat} {Ls : Array Slot} {st : List Value} {k : Nat} {v : UInt32} {l2 : Array Slot} (hd : decode c.code pc = .ok (.fstore k, 2)) (hl : storeLocals Ls k (.float v) = some l2) (hq : pc + 2 = q) (g : Go p e below Q (T.setTop (mkF m q l2 st))) : Go p e below Q (T.setTop (mkF m pc Ls (.float v :: st))) := by
  subst hq; exact Go.of (fun _ r => XS.fstore h hx rfl hd rfl hl r) g
theorem Go.fstoreN (h : At T m c below) (hx : p.tables.exec = Jvm.exec) {pc q : Nat} {Ls : Array Slot} {st : List Value} {k : Fin 4} {v : UInt32} {l2 : Array Slot} (hd : decode c.code pc = .ok (.fstore_n k, 1)) (hl : storeLocals Ls k.val (.float v) = some l2) (hq : pc + 1 = q) (g : Go p e below Q (T.setTop (mkF m q l2 st))) : Go p e below Q (T.setTop (mkF m pc Ls (.float v :: st))) := by
  subst hq; exact Go.of (fun _ r => XS.fstoreN h hx rfl hd rfl hl r) g
theorem Go.aload (h : At T m c below) (hx : p.tables.exec = Jvm.exec) {pc q : Nat} {Ls : Array Slot} {st : List Value} {k : Nat} {v : Value} (hd : decode c.code pc = .ok (.aload k, 2)) (hl : Ls[k]? = some (.val v)) (hv : v.isRef = true) (hq : pc + 2 = q) (g : Go p e below Q (T.setTop (mkF m q Ls (v :: st)))) : Go p e below Q (T.setTop (mkF m pc Ls st)) := by
  subst hq; exact Go.of (fun _ r => XS.aload h hx rfl hd hl hv r) g
theorem Go.aloadN (h : At T m c below) (hx : p.tables.exec = Jvm.exec) {pc q : Nat} {Ls : Array Slot} {st : List Value} {k : Fin 4} {v : Value} (hd : decode c.code pc = .ok (.aload_n k, 1)) (hl : Ls[k.val]? = some (.val v)) (hv : v.isRef = true) (hq : pc + 1 = q) (g : Go p e below Q (T.setTop (mkF m q Ls (v :: st)))) : Go p e below Q (T.setTop (mkF m pc Ls st)) := by
  subst hq; exact Go.of (fun _ r => XS.aloadN h hx rfl hd hl hv r) g
theorem Go.astore (h : At T m c below) (hx : p.tables.exec = Jvm.exec) {pc q : Nat} {Ls : Array Slot} {st : List Value} {k : Nat} {v : Value} {l2 : Array Slot} (hd : decode c.code pc = .ok (.astore k, 2)) (hv : v.isRef = true) (hl : storeLocals Ls k v = some l2) (hq : pc + 2 = q) (g : Go p e below Q (T.setTop (mkF m q l2 st))) : Go p e below Q (T.setTop (mkF m pc Ls (v :: st))) := by
  subst hq; exact Go.of (fun _ r => XS.astore h hx rfl hd rfl hv hl r) g
theorem Go.astoreN (h : At T m c below) (hx : p.tables.exec = Jvm.exec) {pc q : Nat} {Ls : Array Slot} {st : List Value} {k : Fin 4} {v : Value} {l2 : Array Slot} (hd : decode c.code pc = .ok (.astore_n k, 1)) (hv : v.isRef = true) (hl : storeLocals Ls k.val v = some l2) (hq : pc + 1 = q) (g : Go p e below Q (T.setTop (mkF m q l2 st))) : Go p e below Q (T.setTop (mkF m pc Ls (v :: st))) := by
  subst hq; exact Go.of (fun _ r => XS.astoreN h hx rfl hd rfl hv hl r) g
theorem Go.iconst (h : At T m c below) (hx : p.tables.exec = Jvm.exec) {pc q : Nat} {Ls : Array Slot} {st : List Value} {i : Int} {v : Int32} (hd : decode c.code pc = .ok (.iconst i, 1)) (hv : Int32.ofInt i = v) (hq : pc + 1 = q) (g : Go p e below Q (T.setTop (mkF m q Ls (.int v :: st)))) : Go p e below Q (T.setTop (mkF m pc Ls st)) := by
  subst hq hv; exact Go.of (fun _ r => XS.iconst h hx rfl hd r) g
theorem Go.bipush (h : At T m c below) (hx : p.tables.exec = Jvm.exec) {pc q : Nat} {Ls : Array Slot} {st : List Value} {i : Int} {v : Int32} (hd : decode c.code pc = .ok (.bipush i, 2)) (hv : (Int8.ofInt i).toInt32 = v) (hq : pc + 2 = q) (g : Go p e below Q (T.setTop (mkF m q Ls (.int v :: st)))) : Go p e below Q (T.setTop (mkF m pc Ls st)) := by
  subst hq hv; exact Go.of (fun _ r => XS.bipush h hx rfl hd r) g
theorem Go.sipush (h : At T m c below) (hx : p.tables.exec = Jvm.exec) {pc q : Nat} {Ls : Array Slot} {st : List Value} {i : Int} {v : Int32} (hd : decode c.code pc = .ok (.sipush i, 3)) (hv : (Int16.ofInt i).toInt32 = v) (hq : pc + 3 = q) (g : Go p e below Q (T.setTop (mkF m q Ls (.int v :: st)))) : Go p e below Q (T.setTop (mkF m pc Ls st)) := by
  subst hq hv; exact Go.of (fun _ r => XS.sipush h hx rfl hd r) g
theorem Go.lconst (h : At T m c below) (hx : p.tables.exec = Jvm.exec) {pc q : Nat} {Ls : Array Slot} {st : List Value} {k : Fin 2} {v : Int64} (hd : decode c.code pc = .ok (.lconst k, 1)) (hv : Int64.ofNat k = v) (hq : pc + 1 = q) (g : Go p e below Q (T.setTop (mkF m q Ls (.long v :: st)))) : Go p e below Q (T.setTop (mkF m pc Ls st)) := by
  subst hq hv; exact Go.of (fun _ r => XS.lconst h hx rfl hd r) g
theorem Go.aconst (h : At T m c below) (hx : p.tables.exec = Jvm.exec) {pc q : Nat} {Ls : Array Slot} {st : List Value}  (hd : decode c.code pc = .ok (.aconst_null, 1)) (hq : pc + 1 = q) (g : Go p e below Q (T.setTop (mkF m q Ls (.null :: st)))) : Go p e below Q (T.setTop (mkF m pc Ls st)) := by
  subst hq; exact Go.of (fun _ r => XS.aconstNull h hx rfl hd r) g
theorem Go.dconst0 (h : At T m c below) (hx : p.tables.exec = Jvm.exec) {pc q : Nat} {Ls : Array Slot} {st : List Value} {v : UInt64} (hd : decode c.code pc = .ok (.dconst 0, 1)) (hv : FP.dconst0 = v) (hq : pc + 1 = q) (g : Go p e below Q (T.setTop (mkF m q Ls (.double v :: st)))) : Go p e below Q (T.setTop (mkF m pc Ls st)) := by
  subst hq; exact Go.of (fun _ r => XS.dconst0 h hx rfl hd hv r) g
theorem Go.dconst1 (h : At T m c below) (hx : p.tables.exec = Jvm.exec) {pc q : Nat} {Ls : Array Slot} {st : List Value} {v : UInt64} (hd : decode c.code pc = .ok (.dconst 1, 1)) (hv : FP.dconst1 = v) (hq : pc + 1 = q) (g : Go p e below Q (T.setTop (mkF m q Ls (.double v :: st)))) : Go p e below Q (T.setTop (mkF m pc Ls st)) := by
  subst hq; exact Go.of (fun _ r => XS.dconst1 h hx rfl hd hv r) g
theorem Go.fconst0 (h : At T m c below) (hx : p.tables.exec = Jvm.exec) {pc q : Nat} {Ls : Array Slot} {st : List Value} {v : UInt32} (hd : decode c.code pc = .ok (.fconst 0, 1)) (hv : FP.fconst0 = v) (hq : pc + 1 = q) (g : Go p e below Q (T.setTop (mkF m q Ls (.float v :: st)))) : Go p e below Q (T.setTop (mkF m pc Ls st)) := by
  subst hq; exact Go.of (fun _ r => XS.fconst0 h hx rfl hd hv r) g
theorem Go.fconst1 (h : At T m c below) (hx : p.tables.exec = Jvm.exec) {pc q : Nat} {Ls : Array Slot} {st : List Value} {v : UInt32} (hd : decode c.code pc = .ok (.fconst 1, 1)) (hv : FP.fconst1 = v) (hq : pc + 1 = q) (g : Go p e below Q (T.setTop (mkF m q Ls (.float v :: st)))) : Go p e below Q (T.setTop (mkF m pc Ls st)) := by
  subst hq; exact Go.of (fun _ r => XS.fconst1 h hx rfl hd hv r) g
theorem Go.iadd (h : At T m c below) (hx : p.tables.exec = Jvm.exec) {pc q : Nat} {Ls : Array Slot} {st : List Value} {x : Int32} {y : Int32} {v : Int32} (hd : decode c.code pc = .ok (.iadd, 1)) (hv : x + y = v) (hq : pc + 1 = q) (g : Go p e below Q (T.setTop (mkF m q Ls (.int v :: st)))) : Go p e below Q (T.setTop (mkF m pc Ls (.int y :: .int x :: st))) := by
  subst hq hv; exact Go.of (fun _ r => XS.iadd h hx rfl hd rfl r) g
theorem Go.isub (h : At T m c below) (hx : p.tables.exec = Jvm.exec) {pc q : Nat} {Ls : Array Slot} {st : List Value} {x : Int32} {y : Int32} {v : Int32} (hd : decode c.code pc = .ok (.isub, 1)) (hv : x - y = v) (hq : pc + 1 = q) (g : Go p e below Q (T.setTop (mkF m q Ls (.int v :: st)))) : Go p e below Q (T.setTop (mkF m pc Ls (.int y :: .int x :: st))) := by
  subst hq hv; exact Go.of (fun _ r => XS.isub h hx rfl hd rfl r) g
theorem Go.iand (h : At T m c below) (hx : p.tables.exec = Jvm.exec) {pc q : Nat} {Ls : Array Slot} {st : List Value} {x : Int32} {y : Int32} {v : Int32} (hd : decode c.code pc = .ok (.iand, 1)) (hv : x &&& y = v) (hq : pc + 1 = q) (g : Go p e below Q (T.setTop (mkF m q Ls (.int v :: st)))) : Go p e below Q (T.setTop (mkF m pc Ls (.int y :: .int x :: st))) := by
  subst hq hv; exact Go.of (fun _ r => XS.iand h hx rfl hd rfl r) g
theorem Go.imul (h : At T m c below) (hx : p.tables.exec = Jvm.exec) {pc q : Nat} {Ls : Array Slot} {st : List Value} {x : Int32} {y : Int32} {v : Int32} (hd : decode c.code pc = .ok (.imul, 1)) (hv : x * y = v) (hq : pc + 1 = q) (g : Go p e below Q (T.setTop (mkF m q Ls (.int v :: st)))) : Go p e below Q (T.setTop (mkF m pc Ls (.int y :: .int x :: st))) := by
  subst hq hv; exact Go.of (fun _ r => XS.imul h hx rfl hd rfl r) g
theorem Go.ixor (h : At T m c below) (hx : p.tables.exec = Jvm.exec) {pc q : Nat} {Ls : Array Slot} {st : List Value} {x : Int32} {y : Int32} {v : Int32} (hd : decode c.code pc = .ok (.ixor, 1)) (hv : x ^^^ y = v) (hq : pc + 1 = q) (g : Go p e below Q (T.setTop (mkF m q Ls (.int v :: st)))) : Go p e below Q (T.setTop (mkF m pc Ls (.int y :: .int x :: st))) := by
  subst hq hv; exact Go.of (fun _ r => XS.ixor h hx rfl hd rfl r) g
theorem Go.ior (h : At T m c below) (hx : p.tables.exec = Jvm.exec) {pc q : Nat} {Ls : Array Slot} {st : List Value} {x : Int32} {y : Int32} {v : Int32} (hd : decode c.code pc = .ok (.ior, 1)) (hv : x ||| y = v) (hq : pc + 1 = q) (g : Go p e below Q (T.setTop (mkF m q Ls (.int v :: st)))) : Go p e below Q (T.setTop (mkF m pc Ls (.int y :: .int x :: st))) := by
  subst hq hv; exact Go.of (fun _ r => XS.ior h hx rfl hd rfl r) g
theorem Go.ishl (h : At T m c below) (hx : p.tables.exec = Jvm.exec) {pc q : Nat} {Ls : Array Slot} {st : List Value} {x : Int32} {y : Int32} {v : Int32} (hd : decode c.code pc = .ok (.ishl, 1)) (hv : x <<< (y &&& 31) = v) (hq : pc + 1 = q) (g : Go p e below Q (T.setTop (mkF m q Ls (.int v :: st)))) : Go p e below Q (T.setTop (mkF m pc Ls (.int y :: .int x :: st))) := by
  subst hq hv; exact Go.of (fun _ r => XS.ishl h hx rfl hd rfl r) g
theorem Go.ishr (h : At T m c below) (hx : p.tables.exec = Jvm.exec) {pc q : Nat} {Ls : Array Slot} {st : List Value} {x : Int32} {y : Int32} {v : Int32} (hd : decode c.code pc = .ok (.ishr, 1)) (hv : x >>> (y &&& 31) = v) (hq : pc + 1 = q) (g : Go p e below Q (T.setTop (mkF m q Ls (.int v :: st)))) : Go p e below Q (T.setTop (mkF m pc Ls (.int y :: .int x :: st))) := by
  subst hq hv; exact Go.of (fun _ r => XS.ishr h hx rfl hd rfl r) g
theorem Go.iushr (h : At T m c below) (hx : p.tables.exec = Jvm.exec) {pc q : Nat} {Ls : Array Slot} {st : List Value} {x : Int32} {y : Int32} {v : Int32} (hd : decode c.code pc = .ok (.iushr, 1)) (hv : (x.toUInt32 >>> (y &&& 31).toUInt32).toInt32 = v) (hq : pc + 1 = q) (g : Go p e below Q (T.setTop (mkF m q Ls (.int v :: st)))) : Go p e below Q (T.setTop (mkF m pc Ls (.int y :: .int x :: st))) := by
  subst hq hv; exact Go.of (fun _ r => XS.iushr h hx rfl hd rfl r) g
theorem Go.idiv (h : At T m c below) (hx : p.tables.exec = Jvm.exec) {pc q : Nat} {Ls : Array Slot} {st : List Value} {x : Int32} {y : Int32} {v : Int32} (hd : decode c.code pc = .ok (.idiv, 1)) (hy : y ≠ 0) (hv : x / y = v) (hq : pc + 1 = q) (g : Go p e below Q (T.setTop (mkF m q Ls (.int v :: st)))) : Go p e below Q (T.setTop (mkF m pc Ls (.int y :: .int x :: st))) := by
  subst hq hv; exact Go.of (fun _ r => XS.idiv h hx rfl hd rfl hy r) g
theorem Go.irem (h : At T m c below) (hx : p.tables.exec = Jvm.exec) {pc q : Nat} {Ls : Array Slot} {st : List Value} {x : Int32} {y : Int32} {v : Int32} (hd : decode c.code pc = .ok (.irem, 1)) (hy : y ≠ 0) (hv : x - (x / y) * y = v) (hq : pc + 1 = q) (g : Go p e below Q (T.setTop (mkF m q Ls (.int v :: st)))) : Go p e below Q (T.setTop (mkF m pc Ls (.int y :: .int x :: st))) := by
  subst hq hv; exact Go.of (fun _ r => XS.irem h hx rfl hd rfl hy r) g
theorem Go.ladd (h : At T m c below) (hx : p.tables.exec = Jvm.exec) {pc q : Nat} {Ls : Array Slot} {st : List Value} {x : Int64} {y : Int64} {v : Int64} (hd : decode c.code pc = .ok (.ladd, 1)) (hv : x + y = v) (hq : pc + 1 = q) (g : Go p e below Q (T.setTop (mkF m q Ls (.long v :: st)))) : Go p e below Q (T.setTop (mkF m pc Ls (.long y :: .long x :: st))) := by
  subst hq hv; exact Go.of (fun _ r => XS.ladd h hx rfl hd rfl r) g
theorem Go.lsub (h : At T m c below) (hx : p.tables.exec = Jvm.exec) {pc q : Nat} {Ls : Array Slot} {st : List Value} {x : Int64} {y : Int64} {v : Int64} (hd : decode c.code pc = .ok (.lsub, 1)) (hv : x - y = v) (hq : pc + 1 = q) (g : Go p e below Q (T.setTop (mkF m q Ls (.long v :: st)))) : Go p e below Q (T.setTop (mkF m pc Ls (.long y :: .long x :: st))) := by
  subst hq hv; exact Go.of (fun _ r => XS.lsub h hx rfl hd rfl r) g
theorem Go.lmul (h : At T m c below) (hx : p.tables.exec = Jvm.exec) {pc q : Nat} {Ls : Array Slot} {st : List Value} {x : Int64} {y : Int64} {v : Int64} (hd : decode c.code pc = .ok (.lmul, 1)) (hv : x * y = v) (hq : pc + 1 = q) (g : Go p e below Q (T.setTop (mkF m q Ls (.long v :: st)))) : Go p e below Q (T.setTop (mkF m pc Ls (.long y :: .long x :: st))) := by
  subst hq hv; exact Go.of (fun _ r => XS.lmul h hx rfl hd rfl r) g
theorem Go.land (h : At T m c below) (hx : p.tables.exec = Jvm.exec) {pc q : Nat} {Ls : Array Slot} {st : List Value} {x : Int64} {y : Int64} {v : Int64} (hd : decode c.code pc = .ok (.land, 1)) (hv : x &&& y = v) (hq : pc + 1 = q) (g : Go p e below Q (T.setTop (mkF m q Ls (.long v :: st)))) : Go p e below Q (T.setTop (mkF m pc Ls (.long y :: .long x :: st))) := by
  subst hq hv; exact Go.of (fun _ r => XS.land h hx rfl hd rfl r) g
theorem Go.lor (h : At T m c below) (hx : p.tables.exec = Jvm.exec) {pc q : Nat} {Ls : Array Slot} {st : List Value} {x : Int64} {y : Int64} {v : Int64} (hd : decode c.code pc = .ok (.lor, 1)) (hv : x ||| y = v) (hq : pc + 1 = q) (g : Go p e below Q (T.setTop (mkF m q Ls (.long v :: st)))) : Go p e below Q (T.setTop (mkF m pc Ls (.long y :: .long x :: st))) := by
  subst hq hv; exact Go.of (fun _ r => XS.lor h hx rfl hd rfl r) g
theorem Go.lxor (h : At T m c below) (hx : p.tables.exec = Jvm.exec) {pc q : Nat} {Ls : Array Slot} {st : List Value} {x : Int64} {y : Int64} {v : Int64} (hd : decode c.code pc = .ok (.lxor, 1)) (hv : x ^^^ y = v) (hq : pc + 1 = q) (g : Go p e below Q (T.setTop (mkF m q Ls (.long v :: st)))) : Go p e below Q (T.setTop (mkF m pc Ls (.long y :: .long x :: st))) := by
  subst hq hv; exact Go.of (fun _ r => XS.lxor h hx rfl hd rfl r) g
theorem Go.lshl (h : At T m c below) (hx : p.tables.exec = Jvm.exec) {pc q : Nat} {Ls : Array Slot} {st : List Value} {x : Int64} {y : Int32} {v : Int64} (hd : decode c.code pc = .ok (.lshl, 1)) (hv : x <<< (y &&& 0x3f).toInt64 = v) (hq : pc + 1 = q) (g : Go p e below Q (T.setTop (mkF m q Ls (.long v :: st)))) : Go p e below Q (T.setTop (mkF m pc Ls (.int y :: .long x :: st))) := by
  subst hq hv; exact Go.of (fun _ r => XS.lshl h hx rfl hd rfl r) g
theorem Go.lshr (h : At T m c below) (hx : p.tables.exec = Jvm.exec) {pc q : Nat} {Ls : Array Slot} {st : List Value} {x : Int64} {y : Int32} {v : Int64} (hd : decode c.code pc = .ok (.lshr, 1)) (hv : x >>> (y &&& 0x3f).toInt64 = v) (hq : pc + 1 = q) (g : Go p e below Q (T.setTop (mkF m q Ls (.long v :: st)))) : Go p e below Q (T.setTop (mkF m pc Ls (.int y :: .long x :: st))) := by
  subst hq hv; exact Go.of (fun _ r => XS.lshr h hx rfl hd rfl r) g
theorem Go.lushr (h : At T m c below) (hx : p.tables.exec = Jvm.exec) {pc q : Nat} {Ls : Array Slot} {st : List Value} {x : Int64} {y : Int32} {v : Int64} (hd : decode c.code pc = .ok (.lushr, 1)) (hv : (x.toUInt64 >>> (y &&& 0x3f).toInt64.toUInt64).toInt64 = v) (hq : pc + 1 = q) (g : Go p e below Q (T.setTop (mkF m q Ls (.long v :: st)))) : Go p e below Q (T.setTop (mkF m pc Ls (.int y :: .long x :: st))) := by
  subst hq hv; exact Go.of (fun _ r => XS.lushr h hx rfl hd rfl r) g
theorem Go.ldiv (h : At T m c below) (hx : p.tables.exec = Jvm.exec) {pc q : Nat} {Ls : Array Slot} {st : List Value} {x : Int64} {y : Int64} {v : Int64} (hd : decode c.code pc = .ok (.ldiv, 1)) (hy : y ≠ 0) (hv : x / y = v) (hq : pc + 1 = q) (g : Go p e below Q (T.setTop (mkF m q Ls (.long v :: st)))) : Go p e below Q (T.setTop (mkF m pc Ls (.long y :: .long x :: st))) := by
  subst hq hv; exact Go.of (fun _ r => XS.ldiv h hx rfl hd rfl hy r) g
theorem Go.lrem (h : At T m c below) (hx : p.tables.exec = Jvm.exec) {pc q : Nat} {Ls : Array Slot} {st : List Value} {x : Int64} {y : Int64} {v : Int64} (hd : decode c.code pc = .ok (.lrem, 1)) (hy : y ≠ 0) (hv : x - (x / y) * y = v) (hq : pc + 1 = q) (g : Go p e below Q (T.setTop (mkF m q Ls (.long v :: st)))) : Go p e below Q (T.setTop (mkF m pc Ls (.long y :: .long x :: st))) := by
  subst hq hv; exact Go.of (fun _ r => XS.lrem h hx rfl hd rfl hy r) g
theorem Go.lcmp (h : At T m c below) (hx : p.tables.exec = Jvm.exec) {pc q : Nat} {Ls : Array Slot} {st : List Value} {x : Int64} {y : Int64} {v : Int32} (hd : decode c.code pc = .ok (.lcmp, 1)) (hv : lcmpW x y = v) (hq : pc + 1 = q) (g : Go p e below Q (T.setTop (mkF m q Ls (.int v :: st)))) : Go p e below Q (T.setTop (mkF m pc Ls (.long y :: .long x :: st))) := by
  subst hq hv; exact Go.of (fun _ r => XS.lcmp h hx rfl hd rfl r) g
theorem Go.ineg (h : At T m c below) (hx : p.tables.exec = Jvm.exec) {pc q : Nat} {Ls : Array Slot} {st : List Value} {x : Int32} {v : Int32} (hd : decode c.code pc = .ok (.ineg, 1)) (hv : -x = v) (hq : pc + 1 = q) (g : Go p e below Q (T.setTop (mkF m q Ls (.int v :: st)))) : Go p e below Q (T.setTop (mkF m pc Ls (.int x :: st))) := by
  subst hq hv; exact Go.of (fun _ r => XS.ineg h hx rfl hd rfl r) g
theorem Go.lneg (h : At T m c below) (hx : p.tables.exec = Jvm.exec) {pc q : Nat} {Ls : Array Slot} {st : List Value} {x : Int64} {v : Int64} (hd : decode c.code pc = .ok (.lneg, 1)) (hv : -x = v) (hq : pc + 1 = q) (g : Go p e below Q (T.setTop (mkF m q Ls (.long v :: st)))) : Go p e below Q (T.setTop (mkF m pc Ls (.long x :: st))) := by
  subst hq hv; exact Go.of (fun _ r => XS.lneg h hx rfl hd rfl r) g
theorem Go.i2l (h : At T m c below) (hx : p.tables.exec = Jvm.exec) {pc q : Nat} {Ls : Array Slot} {st : List Value} {x : Int32} {v : Int64} (hd : decode c.code pc = .ok (.i2l, 1)) (hv : x.toInt64 = v) (hq : pc + 1 = q) (g : Go p e below Q (T.setTop (mkF m q Ls (.long v :: st)))) : Go p e below Q (T.setTop (mkF m pc Ls (.int x :: st))) := by
  subst hq hv; exact Go.of (fun _ r => XS.i2l h hx rfl hd rfl r) g
theorem Go.l2i (h : At T m c below) (hx : p.tables.exec = Jvm.exec) {pc q : Nat} {Ls : Array Slot} {st : List Value} {x : Int64} {v : Int32} (hd : decode c.code pc = .ok (.l2i, 1)) (hv : x.toInt32 = v) (hq : pc + 1 = q) (g : Go p e below Q (T.setTop (mkF m q Ls (.int v :: st)))) : Go p e below Q (T.setTop (mkF m pc Ls (.long x :: st))) := by
  subst hq hv; exact Go.of (fun _ r => XS.l2i h hx rfl hd rfl r) g
theorem Go.i2d (h : At T m c below) (hx : p.tables.exec = Jvm.exec) {pc q : Nat} {Ls : Array Slot} {st : List Value} {x : Int32} {v : UInt64} (hd : decode c.code pc = .ok (.i2d, 1)) (hv : FP.i2d x = v) (hq : pc + 1 = q) (g : Go p e below Q (T.setTop (mkF m q Ls (.double v :: st)))) : Go p e below Q (T.setTop (mkF m pc Ls (.int x :: st))) := by
  subst hq; exact Go.of (fun _ r => XS.i2dS h hx rfl hd rfl hv r) g
theorem Go.l2d (h : At T m c below) (hx : p.tables.exec = Jvm.exec) {pc q : Nat} {Ls : Array Slot} {st : List Value} {x : Int64} {v : UInt64} (hd : decode c.code pc = .ok (.l2d, 1)) (hv : FP.l2d x = v) (hq : pc + 1 = q) (g : Go p e below Q (T.setTop (mkF m q Ls (.double v :: st)))) : Go p e below Q (T.setTop (mkF m pc Ls (.long x :: st))) := by
  subst hq; exact Go.of (fun _ r => XS.l2dS h hx rfl hd rfl hv r) g
theorem Go.d2i (h : At T m c below) (hx : p.tables.exec = Jvm.exec) {pc q : Nat} {Ls : Array Slot} {st : List Value} {x : UInt64} {v : Int32} (hd : decode c.code pc = .ok (.d2i, 1)) (hv : FP.d2i x = v) (hq : pc + 1 = q) (g : Go p e below Q (T.setTop (mkF m q Ls (.int v :: st)))) : Go p e below Q (T.setTop (mkF m pc Ls (.double x :: st))) := by
  subst hq; exact Go.of (fun _ r => XS.d2iS h hx rfl hd rfl hv r) g
theorem Go.d2l (h : At T m c below) (hx : p.tables.exec = Jvm.exec) {pc q : Nat} {Ls : Array Slot} {st : List Value} {x : UInt64} {v : Int64} (hd : decode c.code pc = .ok (.d2l, 1)) (hv : FP.d2l x = v) (hq : pc + 1 = q) (g : Go p e below Q (T.setTop (mkF m q Ls (.long v :: st)))) : Go p e below Q (T.setTop (mkF m pc Ls (.double x :: st))) := by
  subst hq; exact Go.of (fun _ r => XS.d2lS h hx rfl hd rfl hv r) g
theorem Go.dneg (h : At T m c below) (hx : p.tables.exec = Jvm.exec) {pc q : Nat} {Ls : Array Slot} {st : List Value} {x : UInt64} {v : UInt64} (hd : decode c.code pc = .ok (.dneg, 1)) (hv : FP.dneg x = v) (hq : pc + 1 = q) (g : Go p e below Q (T.setTop (mkF m q Ls (.double v :: st)))) : Go p e below Q (T.setTop (mkF m pc Ls (.double x :: st))) := by
  subst hq; exact Go.of (fun _ r => XS.dnegS h hx rfl hd rfl hv r) g
theorem Go.i2f (h : At T m c below) (hx : p.tables.exec = Jvm.exec) {pc q : Nat} {Ls : Array Slot} {st : List Value} {x : Int32} {v : UInt32} (hd : decode c.code pc = .ok (.i2f, 1)) (hv : FP.i2f x = v) (hq : pc + 1 = q) (g : Go p e below Q (T.setTop (mkF m q Ls (.float v :: st)))) : Go p e below Q (T.setTop (mkF m pc Ls (.int x :: st))) := by
  subst hq; exact Go.of (fun _ r => XS.i2fS h hx rfl hd rfl hv r) g
theorem Go.l2f (h : At T m c below) (hx : p.tables.exec = Jvm.exec) {pc q : Nat} {Ls : Array Slot} {st : List Value} {x : Int64} {v : UInt32} (hd : decode c.code pc = .ok (.l2f, 1)) (hv : FP.l2f x = v) (hq : pc + 1 = q) (g : Go p e below Q (T.setTop (mkF m q Ls (.float v :: st)))) : Go p e below Q (T.setTop (mkF m pc Ls (.long x :: st))) := by
  subst hq; exact Go.of (fun _ r => XS.l2fS h hx rfl hd rfl hv r) g
theorem Go.dadd (h : At T m c below) (hx : p.tables.exec = Jvm.exec) {pc q : Nat} {Ls : Array Slot} {st : List Value} {x y v : UInt64} (hd : decode c.code pc = .ok (.dadd, 1)) (hn : NoNaN64 (FP.dadd x y)) (hv : FP.dadd x y = v) (hq : pc + 1 = q) (g : Go p e below Q (T.setTop (mkF m q Ls (.double v :: st)))) : Go p e below Q (T.setTop (mkF m pc Ls (.double y :: .double x :: st))) := by
  subst hq; exact Go.of (fun _ r => XS.daddS h hx rfl hd rfl hn hv r) g
theorem Go.dsub (h : At T m c below) (hx : p.tables.exec = Jvm.exec) {pc q : Nat} {Ls : Array Slot} {st : List Value} {x y v : UInt64} (hd : decode c.code pc = .ok (.dsub, 1)) (hn : NoNaN64 (FP.dsub x y)) (hv : FP.dsub x y = v) (hq : pc + 1 = q) (g : Go p e below Q (T.setTop (mkF m q Ls (.double v :: st)))) : Go p e below Q (T.setTop (mkF m pc Ls (.double y :: .double x :: st))) := by
  subst hq; exact Go.of (fun _ r => XS.dsubS h hx rfl hd rfl hn hv r) g
theorem Go.dmul (h : At T m c below) (hx : p.tables.exec = Jvm.exec) {pc q : Nat} {Ls : Array Slot} {st : List Value} {x y v : UInt64} (hd : decode c.code pc = .ok (.dmul, 1)) (hn : NoNaN64 (FP.dmul x y)) (hv : FP.dmul x y = v) (hq : pc + 1 = q) (g : Go p e below Q (T.setTop (mkF m q Ls (.double v :: st)))) : Go p e below Q (T.setTop (mkF m pc Ls (.double y :: .double x :: st))) := by
  subst hq; exact Go.of (fun _ r => XS.dmulS h hx rfl hd rfl hn hv r) g
theorem Go.ddiv (h : At T m c below) (hx : p.tables.exec = Jvm.exec) {pc q : Nat} {Ls : Array Slot} {st : List Value} {x y v : UInt64} (hd : decode c.code pc = .ok (.ddiv, 1)) (hn : NoNaN64 (FP.ddiv x y)) (hv : FP.ddiv x y = v) (hq : pc + 1 = q) (g : Go p e below Q (T.setTop (mkF m q Ls (.double v :: st)))) : Go p e below Q (T.setTop (mkF m pc Ls (.double y :: .double x :: st))) := by
  subst hq; exact Go.of (fun _ r => XS.ddivS h hx rfl hd rfl hn hv r) g
theorem Go.dcmp (h : At T m c below) (hx : p.tables.exec = Jvm.exec) {pc q : Nat} {Ls : Array Slot} {st : List Value} {o : CmpOp} {x y : UInt64} {v : Int32} (hd : decode c.code pc = .ok (.dcmp o, 1)) (hv : cmpValue (FP.dcmp x y) o = v) (hq : pc + 1 = q) (g : Go p e below Q (T.setTop (mkF m q Ls (.int v :: st)))) : Go p e below Q (T.setTop (mkF m pc Ls (.double y :: .double x :: st))) := by
  subst hq; exact Go.of (fun _ r => XS.dcmpS h hx rfl hd rfl hv r) g
theorem Go.fcmp (h : At T m c below) (hx : p.tables.exec = Jvm.exec) {pc q : Nat} {Ls : Array Slot} {st : List Value} {o : CmpOp} {x y : UInt32} {v : Int32} (hd : decode c.code pc = .ok (.fcmp o, 1)) (hv : cmpValue (FP.fcmp x y) o = v) (hq : pc + 1 = q) (g : Go p e below Q (T.setTop (mkF m q Ls (.int v :: st)))) : Go p e below Q (T.setTop (mkF m pc Ls (.float y :: .float x :: st))) := by
  subst hq; exact Go.of (fun _ r => XS.fcmpS h hx rfl hd rfl hv r) g
theorem Go.dup (h : At T m c below) (hx : p.tables.exec = Jvm.exec) {pc q : Nat} {Ls : Array Slot} {st : List Value} {v : Value} (hd : decode c.code pc = .ok (.dup, 1)) (hc : v.category = 1) (hq : pc + 1 = q) (g : Go p e below Q (T.setTop (mkF m q Ls (v :: v :: st)))) : Go p e below Q (T.setTop (mkF m pc Ls (v :: st))) := by
  subst hq; exact Go.of (fun _ r => XS.dup h hx rfl hd rfl hc r) g
theorem Go.dup2 (h : At T m c below) (hx : p.tables.exec = Jvm.exec) {pc q : Nat} {Ls : Array Slot} {st : List Value} {v w : Value} (hd : decode c.code pc = .ok (.dup2, 1)) (hc : v.category = 1) (hc2 : w.category = 1) (hq : pc + 1 = q) (g : Go p e below Q (T.setTop (mkF m q Ls (v :: w :: v :: w :: st)))) : Go p e below Q (T.setTop (mkF m pc Ls (v :: w :: st))) := by
  subst hq; exact Go.of (fun _ r => Jvm.Free.XT.dup2 h hx rfl hd rfl hc hc2 r) g
theorem Go.pop (h : At T m c below) (hx : p.tables.exec = Jvm.exec) {pc q : Nat} {Ls : Array Slot} {st : List Value} {v : Value} (hd : decode c.code pc = .ok (.pop, 1)) (hc : v.category = 1) (hq : pc + 1 = q) (g : Go p e below Q (T.setTop (mkF m q Ls st))) : Go p e below Q (T.setTop (mkF m pc Ls (v :: st))) := by
  subst hq; exact Go.of (fun _ r => XS.pop h hx rfl hd rfl hc r) g
theorem step_dup2x1 {tb : Tables} [Ours tb] {target : State} {g : JFrame} (h : At T m c below) (hx : tb.exec = Jvm.exec) (hg : g.method = m) {x : Int64} {b : Value} {rest : List Value} (hd : decode c.code g.pc = .ok (.dup2_x1, 1)) (hs : g.stack = .long x :: b :: rest) (hb : b.category = 1)
    (hr : Steps tb e below (T.setTop { g with pc := g.pc + 1, stack := .long x :: b :: .long x :: rest }) target) : Steps tb e below (T.setTop g) target := by
  subst hg
  jvm_step h [h.top, hx, hd, hs, hb, Value.category]
  exact ⟨hb, hr⟩
theorem Go.dup2x1 (h : At T m c below) (hx : p.tables.exec = Jvm.exec) {pc q : Nat} {Ls : Array Slot} {st : List Value} {x : Int64} {b : Value} (hd : decode c.code pc = .ok (.dup2_x1, 1)) (hb : b.category = 1) (hq : pc + 1 = q) (g : Go p e below Q (T.setTop (mkF m q Ls (.long x :: b :: .long x :: st)))) : Go p e below Q (T.setTop (mkF m pc Ls (.long x :: b :: st))) := by
  subst hq; exact Go.of (fun _ r => step_dup2x1 h hx rfl hd rfl hb r) g
theorem Go.iinc (h : At T m c below) (hx : p.tables.exec = Jvm.exec) {pc q : Nat} {Ls : Array Slot} {st : List Value} {k : Nat} {cst : Int} {x v : Int32} {l2 : Array Slot} (hd : decode c.code pc = .ok (.iinc k cst, 3)) (hl : Ls[k]? = some (.val (.int x))) (hv : x + Int32.ofInt cst = v) (hl2 : storeLocals Ls k (.int v) = some l2) (hq : pc + 3 = q) (g : Go p e below Q (T.setTop (mkF m q l2 st))) : Go p e below Q (T.setTop (mkF m pc Ls st)) := by
  subst hq hv; exact Go.of (fun _ r => XS.iinc h hx rfl hd hl hl2 r) g
theorem Go.goto (h : At T m c below) (hx : p.tables.exec = Jvm.exec) {pc q : Nat} {Ls : Array Slot} {st : List Value} {o : Int} (hd : decode c.code pc = .ok (.goto o, 3)) (ho : 0 ≤ (pc : Int) + o) (hq : ((pc : Int) + o).toNat = q) (g : Go p e below Q (T.setTop (mkF m q Ls st))) : Go p e below Q (T.setTop (mkF m pc Ls st)) := Go.of (fun _ r => XS.goto h hx rfl rfl hd ho hq r) g
theorem Go.ifY (h : At T m c below) (hx : p.tables.exec = Jvm.exec) {pc q : Nat} {Ls : Array Slot} {st : List Value} {cd : ClassFile.Cond} {x : Int32} {o : Int} (hd : decode c.code pc = .ok (.ifCond cd o, 3)) (hc : ifCond.holds cd x = true) (ho : 0 ≤ (pc : Int) + o) (hq : ((pc : Int) + o).toNat = q) (g : Go p e below Q (T.setTop (mkF m q Ls st))) : Go p e below Q (T.setTop (mkF m pc Ls (.int x :: st))) := Go.of (fun _ r => XS.ifYes h hx rfl rfl hd rfl hc ho hq r) g
theorem Go.ifN (h : At T m c below) (hx : p.tables.exec = Jvm.exec) {pc q : Nat} {Ls : Array Slot} {st : List Value} {cd : ClassFile.Cond} {x : Int32} {o : Int} (hd : decode c.code pc = .ok (.ifCond cd o, 3)) (hc : ifCond.holds cd x = false) (hq : pc + 3 = q) (g : Go p e below Q (T.setTop (mkF m q Ls st))) : Go p e below Q (T.setTop (mkF m pc Ls (.int x :: st))) := by
  subst hq; exact Go.of (fun _ r => XS.ifNo h hx rfl hd rfl hc r) g
theorem Go.icmpY (h : At T m c below) (hx : p.tables.exec = Jvm.exec) {pc q : Nat} {Ls : Array Slot} {st : List Value} {cd : ClassFile.Cond} {x y : Int32} {o : Int} (hd : decode c.code pc = .ok (.if_icmp cd o, 3)) (hc : if_icmp.holds cd x y = true) (ho : 0 ≤ (pc : Int) + o) (hq : ((pc : Int) + o).toNat = q) (g : Go p e below Q (T.setTop (mkF m q Ls st))) : Go p e below Q (T.setTop (mkF m pc Ls (.int y :: .int x :: st))) := Go.of (fun _ r => XS.icmpYes h hx rfl rfl hd rfl hc ho hq r) g
theorem Go.icmpN (h : At T m c below) (hx : p.tables.exec = Jvm.exec) {pc q : Nat} {Ls : Array Slot} {st : List Value} {cd : ClassFile.Cond} {x y : Int32} {o : Int} (hd : decode c.code pc = .ok (.if_icmp cd o, 3)) (hc : if_icmp.holds cd x y = false) (hq : pc + 3 = q) (g : Go p e below Q (T.setTop (mkF m q Ls st))) : Go p e below Q (T.setTop (mkF m pc Ls (.int y :: .int x :: st))) := by
  subst hq; exact Go.of (fun _ r => XS.icmpNo h hx rfl hd rfl hc r) g
theorem Go.acmpY (h : At T m c below) (hx : p.tables.exec = Jvm.exec) {pc q : Nat} {Ls : Array Slot} {st : List Value} {cd : ClassFile.ACond} {a b : Addr} {o : Int} (hd : decode c.code pc = .ok (.if_acmp cd o, 3)) (hc : if_acmp.holds cd (some a) (some b) = true) (ho : 0 ≤ (pc : Int) + o) (hq : ((pc : Int) + o).toNat = q) (g : Go p e below Q (T.setTop (mkF m q Ls st))) : Go p e below Q (T.setTop (mkF m pc Ls (.ref b :: .ref a :: st))) := Go.of (fun _ r => XS.acmpYes h hx rfl rfl hd rfl hc ho hq r) g
theorem Go.acmpN (h : At T m c below) (hx : p.tables.exec = Jvm.exec) {pc q : Nat} {Ls : Array Slot} {st : List Value} {cd : ClassFile.ACond} {a b : Addr} {o : Int} (hd : decode c.code pc = .ok (.if_acmp cd o, 3)) (hc : if_acmp.holds cd (some a) (some b) = false) (hq : pc + 3 = q) (g : Go p e below Q (T.setTop (mkF m q Ls st))) : Go p e below Q (T.setTop (mkF m pc Ls (.ref b :: .ref a :: st))) := by
  subst hq; exact Go.of (fun _ r => XS.acmpNo h hx rfl hd rfl hc r) g
theorem Go.nullY (h : At T m c below) (hx : p.tables.exec = Jvm.exec) {pc q : Nat} {Ls : Array Slot} {st : List Value} {o : Int} (hd : decode c.code pc = .ok (.ifnull o, 3)) (ho : 0 ≤ (pc : Int) + o) (hq : ((pc : Int) + o).toNat = q) (g : Go p e below Q (T.setTop (mkF m q Ls st))) : Go p e below Q (T.setTop (mkF m pc Ls (.null :: st))) := Go.of (fun _ r => XS.ifnullYes h hx rfl rfl hd rfl ho hq r) g
theorem Go.nullN (h : At T m c below) (hx : p.tables.exec = Jvm.exec) {pc q : Nat} {Ls : Array Slot} {st : List Value} {o : Int} {b : Addr} (hd : decode c.code pc = .ok (.ifnull o, 3)) (hq : pc + 3 = q) (g : Go p e below Q (T.setTop (mkF m q Ls st))) : Go p e below Q (T.setTop (mkF m pc Ls (.ref b :: st))) := by
  subst hq; exact Go.of (fun _ r => XS.ifnullNo h hx rfl hd rfl r) g
theorem Go.nonnullY (h : At T m c below) (hx : p.tables.exec = Jvm.exec) {pc q : Nat} {Ls : Array Slot} {st : List Value} {o : Int} {b : Addr} (hd : decode c.code pc = .ok (.ifnonnull o, 3)) (ho : 0 ≤ (pc : Int) + o) (hq : ((pc : Int) + o).toNat = q) (g : Go p e below Q (T.setTop (mkF m q Ls st))) : Go p e below Q (T.setTop (mkF m pc Ls (.ref b :: st))) := Go.of (fun _ r => XS.ifnonnullYes h hx rfl rfl hd rfl ho hq r) g
theorem Go.nonnullN (h : At T m c below) (hx : p.tables.exec = Jvm.exec) {pc q : Nat} {Ls : Array Slot} {st : List Value} {o : Int} (hd : decode c.code pc = .ok (.ifnonnull o, 3)) (hq : pc + 3 = q) (g : Go p e below Q (T.setTop (mkF m q Ls st))) : Go p e below Q (T.setTop (mkF m pc Ls (.null :: st))) := by
  subst hq; exact Go.of (fun _ r => XS.ifnonnullNo h hx rfl hd rfl r) g
theorem Go.ldcI (X : Stand p l e R s m args below meth c T locs cells slots) (hx : p.tables.exec = Jvm.exec) {own : String} {index : Nat} {v : Int32} (hown : s.vm.findClass own = some m.cls) (w : (Jvm.Cond.constant own index v).before args s = true) {pc q : Nat} {Ls : Array Slot} {st : List Value} (hd : decode c.code pc = .ok (.ldc index, 2)) (hq : pc + 2 = q) (g : Go p e below Q (T.setTop (mkF m q Ls (.int v :: st)))) : Go p e below Q (T.setTop (mkF m pc Ls st)) := by
  subst hq; exact Go.of (fun _ r => X.ldcInt hx hown w (g := mkF m pc Ls st) rfl hd _ r) g
theorem Go.ldc2J (X : Stand p l e R s m args below meth c T locs cells slots) (hx : p.tables.exec = Jvm.exec) {own : String} {index : Nat} {v : Int64} (hown : s.vm.findClass own = some m.cls) (w : (Jvm.Cond.constantLong own index v).before args s = true) {pc q : Nat} {Ls : Array Slot} {st : List Value} (hd : decode c.code pc = .ok (.ldc2_w index, 3)) (hq : pc + 3 = q) (g : Go p e below Q (T.setTop (mkF m q Ls (.long v :: st)))) : Go p e below Q (T.setTop (mkF m pc Ls st)) := by
  subst hq; exact Go.of (fun _ r => X.ldc2Long hx hown w (g := mkF m pc Ls st) rfl hd _ r) g
theorem Go.ldc2D (X : Stand p l e R s m args below meth c T locs cells slots) (hx : p.tables.exec = Jvm.exec) {own : String} {index : Nat} {v : UInt64} (hown : s.vm.findClass own = some m.cls) (w : (Jvm.Cond.constantDouble own index v).before args s = true) {pc q : Nat} {Ls : Array Slot} {st : List Value} (hd : decode c.code pc = .ok (.ldc2_w index, 3)) (hq : pc + 3 = q) (g : Go p e below Q (T.setTop (mkF m q Ls (.double v :: st)))) : Go p e below Q (T.setTop (mkF m pc Ls st)) := by
  subst hq; exact Go.of (fun _ r => X.ldc2DoubleC hx hown w (g := mkF m pc Ls st) rfl hd _ r) g
theorem Go.ldcF (X : Stand p l e R s m args below meth c T locs cells slots) (hx : p.tables.exec = Jvm.exec) {own : String} {index : Nat} {v : UInt32} (hown : s.vm.findClass own = some m.cls) (w : (Jvm.Cond.constantFloat own index v).before args s = true) {pc q : Nat} {Ls : Array Slot} {st : List Value} (hd : decode c.code pc = .ok (.ldc index, 2)) (hq : pc + 2 = q) (g : Go p e below Q (T.setTop (mkF m q Ls (.float v :: st)))) : Go p e below Q (T.setTop (mkF m pc Ls st)) := by
  subst hq; exact Go.of (fun _ r => X.ldcFloatC hx hown w (g := mkF m pc Ls st) rfl hd _ r) g
end OwnGo

/-! own layer 3: steps that touch the heap, and calls by contract, in the same forward form -/
section OwnHeap
variable {p : Program} {l : Launch} {e : Env} {R : Room} {s : State} {m : MethodId} {args : Array Value} {below : List Frame} {meth : Method} {c : Code} {T : State} {locs : List Loc} {cells slots : Nat} {Q : Outcome → State → Prop} {Z : State} {a0 : Array Value} {h : Heap}
/-- a callee's contract at one call -/
abbrev Con (l : Launch) (Z : State) (y : MethodName) (bytes : ByteArray) (maxL : Nat) (ret : Option FieldType) (rm : Room) (as' : Array Value) (h : Heap) (Qv : Option Value → Heap → List Loc → Prop) : Prop :=
  MetFree l y (head1 [Jvm.Cond.code y bytes maxL ret] rm) (fun a U => a = as' ∧ Z.Warmed39 U.vm ∧ U.heap = h) (fun _ _ _ _ _ => True) (fun _ U o U' => ∃ v L, o = .returned v ∧ Qv v U'.heap L ∧ FrameEnd U o U' L rm.cells rm.slots)
theorem Go.new (X : Stand p l e R s m args below meth c T locs cells slots) (hx : p.tables.exec = Jvm.exec) (hZ : Z.Warmed39 s.vm) {own C : String} {index n : Nat} (hown : s.vm.findClass own = some m.cls) (w : (Jvm.Cond.classLink own index C).before a0 Z = true) (wi : (Jvm.Cond.instantiable C n).before a0 Z = true) (wz : (Jvm.Cond.initialized C).before a0 Z = true) (eT : T.heap = h)
    {pc q : Nat} {Ls : Array Slot} {st : List Value} (hd : decode c.code pc = .ok (.new index, 3)) (hc : cells + 1 ≤ R.cells) (hl : slots + n ≤ R.slots) (hq : pc + 3 = q)
    (k : ∀ (T' : State) (h' : Heap) (a : Addr), a = h.size → Stand p l e R s m args below meth c T' locs (cells + 1) (slots + n) → T'.heap = h' → Ext h h' → Exa Z h' a C → (∀ {O nm d : String} {ty : FieldType}, Laid Z a0 C O nm d → parseFieldDescriptor d = some ty → Fld Z h' a O nm d (defaultValue ty)) →
      Go p e below Q (T'.setTop (mkF m q Ls (.ref a :: st)))) : Go p e below Q (T.setTop (mkF m pc Ls st)) := by
  subst hq
  obtain ⟨T', h', X', e', E', A', D', -, st'⟩ := newO X hx hZ hown w wi wz eT (g := mkF m pc Ls st) rfl hd hc hl
  exact Go.of st' (k T' h' _ rfl X' e' E' A' D')
theorem Go.getf (X : Stand p l e R s m args below meth c T locs cells slots) (hx : p.tables.exec = Jvm.exec) (hZ : Z.Warmed39 s.vm) {own O n d : String} {index : Nat} (hown : s.vm.findClass own = some m.cls) (w : (Jvm.Cond.fieldLink own index O n d).before a0 Z = true) (eT : T.heap = h) {a : Addr} {v : Value} (F : Fld Z h a O n d v)
    {pc q : Nat} {Ls : Array Slot} {st : List Value} (hd : decode c.code pc = .ok (.getfield index, 3)) (hq : pc + 3 = q)
    (k : ∀ T' : State, Stand p l e R s m args below meth c T' locs cells slots → T'.heap = h → Go p e below Q (T'.setTop (mkF m q Ls (v :: st)))) : Go p e below Q (T.setTop (mkF m pc Ls (.ref a :: st))) := by
  subst hq
  obtain ⟨T', X', e', st'⟩ := getF X hx hZ hown (host := "") (Or.inl w) Via.refl eT F (g := mkF m pc Ls (.ref a :: st)) rfl rfl hd
  exact Go.of st' (k T' X' e')
theorem Go.gets (X : Stand p l e R s m args below meth c T locs cells slots) (hx : p.tables.exec = Jvm.exec) (hZ : Z.Warmed39 s.vm) {own O n d : String} {index : Nat} (hown : s.vm.findClass own = some m.cls) (w : (Jvm.Cond.fieldLink own index O n d).before a0 Z = true) (eT : T.heap = h) {v : Value} (F : Sta Z h O n d v)
    {pc q : Nat} {Ls : Array Slot} {st : List Value} (hd : decode c.code pc = .ok (.getstatic index, 3)) (hq : pc + 3 = q)
    (k : ∀ T' : State, Stand p l e R s m args below meth c T' locs cells slots → T'.heap = h → Go p e below Q (T'.setTop (mkF m q Ls (v :: st)))) : Go p e below Q (T.setTop (mkF m pc Ls st)) := by
  subst hq
  obtain ⟨T', X', e', st'⟩ := getS X hx hZ hown (host := "") w Via.refl eT F (g := mkF m pc Ls st) rfl hd
  exact Go.of st' (k T' X' e')
theorem Go.putf (X : Stand p l e R s m args below meth c T locs cells slots) (hx : p.tables.exec = Jvm.exec) (hZ : Z.Warmed39 s.vm) {own O n d C : String} {index kk : Nat} {ty : FieldType} (hown : s.vm.findClass own = some m.cls) (w : (Jvm.Cond.fieldLink own index O n d).before a0 Z = true) (eT : T.heap = h) {a : Addr} {v old : Value} (F : Fld Z h a O n d old) (E : Exa Z h a C)
    (L : (Jvm.Cond.lays C O n d).before a0 Z = true ∨ ((Jvm.Cond.laysFinal C O n d).before a0 Z = true ∧ own = O ∧ meth.name = "<init>")) (wi : (Jvm.Cond.instantiable C kk).before a0 Z = true) (hty : parseFieldDescriptor d = some ty) (hn : narrow ty v = v) (hf : fits ty v = true)
    {pc q : Nat} {Ls : Array Slot} {st : List Value} (hd : decode c.code pc = .ok (.putfield index, 3)) (hq : pc + 3 = q)
    (k : ∀ (T' : State) (h' : Heap), Stand p l e R s m args below meth c T' (locs ++ [⟨a, Jvm.RoadKit.slotOf Z O n d⟩]) cells slots → T'.heap = h' → Wr h h' a (Jvm.RoadKit.slotOf Z O n d) v → Go p e below Q (T'.setTop (mkF m q Ls st))) : Go p e below Q (T.setTop (mkF m pc Ls (v :: .ref a :: st))) := by
  subst hq
  obtain ⟨T', h', X', e', W', st'⟩ := putF X hx hZ hown (host := "") (Or.inl w) Via.refl eT F E L wi hty hn hf (g := mkF m pc Ls (v :: .ref a :: st)) rfl rfl hd
  exact Go.of st' (k T' h' X' e' W')
theorem Go.init (X : Stand p l e R s m args below meth c T locs cells slots) (hx : p.tables.exec = Jvm.exec) (hZ : Z.Warmed39 s.vm) {own : String} {index : Nat} (hown : s.vm.findClass own = some m.cls) (w1 : (Jvm.Cond.methodLink own index Lib.objectInit).before a0 Z = true) (w2 : (Jvm.Cond.instanceMethod Lib.objectInit).before a0 Z = true) (w3 : (Jvm.Cond.code Lib.objectInit ⟨#[0xb1]⟩ 1 none).before a0 Z = true) (eT : T.heap = h)
    {pc q : Nat} {Ls : Array Slot} {st : List Value} {a : Addr} {W : Nat} (hd : decode c.code pc = .ok (.invokespecial index, 3)) (hsz : Ls.size = c.maxLocals) (hf : 1 ≤ R.frames) (hW : (st.map fun v => v.category).sum ≤ W) (hl : W + 12 ≤ R.locals) (hq : pc + 3 = q)
    (k : ∀ T' : State, Stand p l e R s m args below meth c T' locs cells slots → T'.heap = h → Go p e below Q (T'.setTop (mkF m q Ls st))) : Go p e below Q (T.setTop (mkF m pc Ls (.ref a :: st))) := by
  subst hq
  obtain ⟨T', X', e', st'⟩ := initO X hx hZ hown w1 w2 w3 eT (g := mkF m pc Ls (.ref a :: st)) rfl hsz rfl hd hf (W := W) (by show 2 * 0 + _ ≤ _; omega) hl
  exact Go.of st' (k T' X' e')
theorem Go.special (X : Stand p l e R s m args below meth c T locs cells slots) (hx : p.tables.exec = Jvm.exec) (hZ : Z.Warmed39 s.vm) {own : String} {index : Nat} {y : MethodName} (hy1 : y.name = "<init>") (hown : s.vm.findClass own = some m.cls) (w1 : (Jvm.Cond.methodLink own index y).before a0 Z = true) (w2 : (Jvm.Cond.instanceMethod y).before a0 Z = true)
    {bytes : ByteArray} {maxL : Nat} (w3 : (Jvm.Cond.code y bytes maxL none).before a0 Z = true) (wz : (Jvm.Cond.initialized y.cls).before a0 Z = true) (hy : y.cls ≠ "java/lang/invoke/MethodHandle" ∧ y.cls ≠ "java/lang/invoke/VarHandle")
    {rm : Room} {as' : Array Value} {Qv : Option Value → Heap → List Loc → Prop} (hM : Con l Z y bytes maxL none rm as' h Qv) (eT : T.heap = h) {pc q : Nat} {Ls : Array Slot} {st : List Value} {a : Addr} {argsL rest : List Value} {W : Nat} (hd : decode c.code pc = .ok (.invokespecial index, 3))
    (hst : st = argsL.reverse ++ .ref a :: rest) (has : as' = (.ref a :: argsL).toArray) (hlen : ∀ sig, parseMethodDescriptor y.desc = some sig → argsL.length = sig.parameters.length) (hsz : Ls.size = c.maxLocals) (hW : (rest.map fun v => v.category).sum ≤ W)
    (hf : rm.frames + 1 ≤ R.frames) (hl : W + (maxL + 11) + rm.locals ≤ R.locals) (hc : cells + rm.cells ≤ R.cells) (hs : slots + rm.slots ≤ R.slots) (hq : pc + 3 = q)
    (k : ∀ (T' : State) (L : List Loc) (v : Option Value), Stand p l e R s m args below meth c T' (locs ++ L) (cells + rm.cells) (slots + rm.slots) → Qv v T'.heap L → Go p e below Q (T'.setTop (mkF m q Ls (v.toList ++ rest)))) : Go p e below Q (T.setTop (mkF m pc Ls st)) := by
  subst hq hst has
  obtain ⟨v, vm₁, ⟨T', L', k', n'⟩, -, X', ⟨Lc, hQ, l1, y1, z1⟩, st'⟩ := X.specialBack hx (y := y) hy1 hown (mvT hZ w1) (mvT hZ w2) (mvT hZ w3) hy (backOf (W := W) hM hZ w3 wz hf hl) (g := mkF m pc Ls (argsL.reverse ++ .ref a :: rest)) rfl hsz (Steps.refl _) (a := a) (argsL := argsL) (rest := rest) hlen rfl (by show 2 * 0 + _ ≤ _; omega) hd (fun _ _ => ⟨rfl, eT, hc, hs⟩)
  dsimp only [Pt.U, Pt.locs, Pt.cells, Pt.slots] at X' l1 y1 z1 st' hQ
  subst l1 y1 z1
  exact Go.tr st' (k T' Lc v X' hQ)
theorem Go.virtual (X : Stand p l e R s m args below meth c T locs cells slots) (hx : p.tables.exec = Jvm.exec) (hZ : Z.Warmed39 s.vm) {own C : String} {index : Nat} {y : MethodName} (hown : s.vm.findClass own = some m.cls) (w1 : (Jvm.Cond.methodLink own index y).before a0 Z = true) (w2 : (Jvm.Cond.declares y).before a0 Z = true) (w3 : (Jvm.Cond.selects C y y).before a0 Z = true) (w4 : (Jvm.Cond.instanceMethod y).before a0 Z = true)
    {bytes : ByteArray} {maxL : Nat} {ret : Option FieldType} (w5 : (Jvm.Cond.code y bytes maxL ret).before a0 Z = true) (wz : (Jvm.Cond.initialized y.cls).before a0 Z = true) (hy : y.cls ≠ "java/lang/invoke/MethodHandle" ∧ y.cls ≠ "java/lang/invoke/VarHandle")
    {rm : Room} {as' : Array Value} {Qv : Option Value → Heap → List Loc → Prop} (hM : Con l Z y bytes maxL ret rm as' h Qv) (eT : T.heap = h) {a : Addr} (E : Exa Z h a C) {pc q : Nat} {Ls : Array Slot} {st : List Value} {argsL rest : List Value} {W : Nat} (hd : decode c.code pc = .ok (.invokevirtual index, 3))
    (hst : st = argsL.reverse ++ .ref a :: rest) (has : as' = (.ref a :: argsL).toArray) (hlen : ∀ sig, parseMethodDescriptor y.desc = some sig → argsL.length = sig.parameters.length) (hsz : Ls.size = c.maxLocals) (hW : (rest.map fun v => v.category).sum ≤ W)
    (hf : rm.frames + 1 ≤ R.frames) (hl : W + (maxL + 11) + rm.locals ≤ R.locals) (hc : cells + rm.cells ≤ R.cells) (hs : slots + rm.slots ≤ R.slots) (hq : pc + 3 = q)
    (k : ∀ (T' : State) (L : List Loc) (v : Option Value), Stand p l e R s m args below meth c T' (locs ++ L) (cells + rm.cells) (slots + rm.slots) → Qv v T'.heap L → Go p e below Q (T'.setTop (mkF m q Ls (v.toList ++ rest)))) : Go p e below Q (T.setTop (mkF m pc Ls st)) := by
  subst hq hst has
  obtain ⟨cq, kq, qa, -, qc⟩ := isOf hZ eT E
  obtain ⟨v, vm₁, ⟨T', L', k', n'⟩, -, X', ⟨Lc, hQ, l1, y1, z1⟩, st'⟩ := X.virtualBack hx (y := y) (z := y) hown (mvT hZ w1) (mvT hZ w2) (notFace_of_selects (args := #[]) (mvT hZ w3)) (mvT hZ w3) (mvT hZ w4) hy (backOf (W := W) hM hZ w5 wz hf hl) qa qc (g := mkF m pc Ls (argsL.reverse ++ .ref a :: rest)) rfl hsz (Steps.refl _) (argsL := argsL) (rest := rest) hlen rfl (by show 2 * 0 + _ ≤ _; omega) hd (fun _ _ => ⟨rfl, eT, hc, hs⟩)
  dsimp only [Pt.U, Pt.locs, Pt.cells, Pt.slots] at X' l1 y1 z1 st' hQ
  subst l1 y1 z1
  exact Go.tr st' (k T' Lc v X' hQ)
theorem Go.static (X : Stand p l e R s m args below meth c T locs cells slots) (hx : p.tables.exec = Jvm.exec) (hZ : Z.Warmed39 s.vm) {own : String} {index : Nat} {y : MethodName} (hown : s.vm.findClass own = some m.cls) (w1 : (Jvm.Cond.methodLink own index y).before a0 Z = true) (w2 : (Jvm.Cond.static y).before a0 Z = true)
    {bytes : ByteArray} {maxL : Nat} {ret : Option FieldType} (w3 : (Jvm.Cond.code y bytes maxL ret).before a0 Z = true) (wz : (Jvm.Cond.initialized y.cls).before a0 Z = true) (hy : y.cls ≠ "java/lang/invoke/MethodHandle" ∧ y.cls ≠ "java/lang/invoke/VarHandle")
    {rm : Room} {as' : Array Value} {Qv : Option Value → Heap → List Loc → Prop} (hM : Con l Z y bytes maxL ret rm as' h Qv) (eT : T.heap = h) {pc q : Nat} {Ls : Array Slot} {st : List Value} {argsL rest : List Value} {W : Nat} (hd : decode c.code pc = .ok (.invokestatic index, 3))
    (hst : st = argsL.reverse ++ rest) (has : as' = argsL.toArray) (hlen : ∀ sig, parseMethodDescriptor y.desc = some sig → argsL.length = sig.parameters.length) (hsz : Ls.size = c.maxLocals) (hW : (rest.map fun v => v.category).sum ≤ W)
    (hf : rm.frames + 1 ≤ R.frames) (hl : W + (maxL + 11) + rm.locals ≤ R.locals) (hc : cells + rm.cells ≤ R.cells) (hs : slots + rm.slots ≤ R.slots) (hq : pc + 3 = q)
    (k : ∀ (T' : State) (L : List Loc) (v : Option Value), Stand p l e R s m args below meth c T' (locs ++ L) (cells + rm.cells) (slots + rm.slots) → Qv v T'.heap L → Go p e below Q (T'.setTop (mkF m q Ls (v.toList ++ rest)))) : Go p e below Q (T.setTop (mkF m pc Ls st)) := by
  subst hq hst has
  obtain ⟨v, vm₁, ⟨T', L', k', n'⟩, -, X', ⟨Lc, hQ, l1, y1, z1⟩, st'⟩ := Jvm.LawKit.callS X hx (y := y) hown (mvT hZ w1) (mvT hZ w2) (mvT hZ wz) (mvT hZ w3) hy (backOf (W := W) hM hZ w3 wz hf hl) (g := mkF m pc Ls (argsL.reverse ++ rest)) rfl hsz (argsL := argsL) (rest := rest) hlen rfl (by show 2 * 0 + _ ≤ _; omega) hd (fun _ _ => ⟨rfl, eT, hc, hs⟩)
  dsimp only [Pt.U, Pt.locs, Pt.cells, Pt.slots] at X' l1 y1 z1 st' hQ
  subst l1 y1 z1
  exact Go.of st' (k T' Lc v X' hQ)
/-- a static call that a payer of the library answers, and that leaves all as it was -/
theorem Go.nat (X : Stand p l e R s m args below meth c T locs cells slots) (hx : p.tables.exec = Jvm.exec) (hZ : Z.Warmed39 s.vm) {own : String} {index : Nat} {y : MethodName} (hown : s.vm.findClass own = some m.cls) (w1 : (Jvm.Cond.methodLink own index y).before a0 Z = true) (w2 : (Jvm.Cond.static y).before a0 Z = true) (w3 : (Jvm.Cond.initialized y.cls).before a0 Z = true)
    {by0 : ByteArray} {ml : Nat} {rt : Option FieldType} (w4 : (Jvm.Cond.code y by0 ml rt).before a0 Z = true) (hy : y.cls ≠ "java/lang/invoke/MethodHandle" ∧ y.cls ≠ "java/lang/invoke/VarHandle") (eT : T.heap = h) {W : Nat} {F : Array Value → Prop} {val : Value}
    (hK : (Jvm.Cond.code y by0 ml rt).before args s = true → Back l R p e below s args y 3 W (fun A a' => A.cells ≤ R.cells ∧ A.slots ≤ R.slots ∧ F a') (fun A _ v B => v = some val ∧ B = A))
    {pc q : Nat} {Ls : Array Slot} {st : List Value} {argsL rest : List Value} (hd : decode c.code pc = .ok (.invokestatic index, 3)) (hst : st = argsL.reverse ++ rest) (hlen : ∀ sig, parseMethodDescriptor y.desc = some sig → argsL.length = sig.parameters.length) (hsz : Ls.size = c.maxLocals) (hW : (rest.map fun v => v.category).sum ≤ W)
    (hc : cells ≤ R.cells) (hs : slots ≤ R.slots) (hF : F argsL.toArray) (hq : pc + 3 = q)
    (k : ∀ T' : State, Stand p l e R s m args below meth c T' locs cells slots → T'.heap = h → Go p e below Q (T'.setTop (mkF m q Ls (val :: rest)))) : Go p e below Q (T.setTop (mkF m pc Ls st)) := by
  subst hq hst
  obtain ⟨T', X', e', st'⟩ := natS X hx hZ hown w1 w2 w3 w4 hy eT hK (g := mkF m pc Ls (argsL.reverse ++ rest)) rfl hsz hlen rfl (by show 2 * 0 + _ ≤ _; omega) hd hc hs hF rfl
  exact Go.of st' (k T' X' e')
/-! words of the sheet by their place -/
theorem word {ts : List Jvm.Cond} (hw : ∀ d ∈ ts, d.before a0 Z = true) {d : Jvm.Cond} (i : Nat) (hi : ts[i]? = some d) : d.before a0 Z = true := hw _ (List.mem_of_getElem? hi)
end OwnHeap
/-! own layer 4: arrays of known contents -/
section OwnArr
variable {p : Program} {l : Launch} {e : Env} {R : Room} {s : State} {m : MethodId} {args : Array Value} {below : List Frame} {meth : Method} {c : Code} {T : State} {locs : List Loc} {cells slots : Nat} {Q : Outcome → State → Prop} {Z : State} {a0 : Array Value} {h h' : Heap}
/-- the array at a: its component type, its class, its contents -/
def Row (Z : State) (h : Heap) (a : Addr) (ty : FieldType) (k : ClassId) (vs : List Value) : Prop := ∃ cl : Cell, Arr Z h a cl ty ∧ cl.cls = k ∧ cl.slots = vs.toArray
theorem Row.lt {a : Addr} {ty : FieldType} {k : ClassId} {vs : List Value} (F : Row Z h a ty k vs) : a < h.size := by obtain ⟨cl, A, -⟩ := F; exact A.lt
theorem Row.ext {a : Addr} {ty : FieldType} {k : ClassId} {vs : List Value} (F : Row Z h a ty k vs) (E : Ext h h') : Row Z h' a ty k vs := by obtain ⟨cl, A, r⟩ := F; exact ⟨cl, A.ext E, r⟩
theorem Row.other {a b : Addr} {ty : FieldType} {k : ClassId} {vs : List Value} {sl : Nat} {v : Value} (F : Row Z h b ty k vs) (W : Wr h h' a sl v) (hne : b ≠ a) : Row Z h' b ty k vs := by obtain ⟨cl, A, r⟩ := F; exact ⟨cl, A.other W hne, r⟩
theorem Row.keep {a : Addr} {ty : FieldType} {k : ClassId} {vs : List Value} {ws : List Addr} (F : Row Z h a ty k vs) (K : Keep h h' ws) (hn : a ∉ ws) : Row Z h' a ty k vs := by obtain ⟨cl, A, r⟩ := F; exact ⟨cl, ⟨K.2.1 _ _ A.1 hn, A.2⟩, r⟩
theorem Row.set {a : Addr} {ty : FieldType} {k : ClassId} {vs : List Value} {i : Nat} {v : Value} (F : Row Z h a ty k vs) (W : Wr h h' a i v) : Row Z h' a ty k (vs.set i v) := by
  obtain ⟨cl, A, q1, q2⟩ := F
  refine ⟨cl.setSlot i v, A.same W, q1, ?_⟩
  show cl.slots.setIfInBounds i v = _
  rw [q2]; simp
theorem Row.inb {vs : List Value} {cl : Cell} (q : cl.slots = vs.toArray) {j : Int32} {i : Nat} {v : Value} (hj : j.toNatClampNeg = i) (hj0 : ¬ j < 0) (hv : vs[i]? = some v) : ¬ (j < 0 ∨ cl.slots.size ≤ j.toNatClampNeg) := by
  obtain ⟨hi, -⟩ := List.getElem?_eq_some_iff.mp hv
  have : cl.slots.size = vs.length := by rw [q]; simp
  rintro (z | z)
  · exact hj0 z
  · omega
theorem Row.getv {vs : List Value} {cl : Cell} (q : cl.slots = vs.toArray) {j : Int32} {i : Nat} {v : Value} (hj : j.toNatClampNeg = i) (hv : vs[i]? = some v) : cl.slots[j.toNatClampNeg]? = some v := by
  rw [q, hj]; simpa using hv
theorem Go.newarr (X : Stand p l e R s m args below meth c T locs cells slots) (hx : p.tables.exec = Jvm.exec) (hZ : Z.Warmed39 s.vm) {aty : ArrayType} (w : (Jvm.Cond.arrayClass (newarray.typeOf aty)).before a0 Z = true) (eT : T.heap = h)
    {pc q : Nat} {Ls : Array Slot} {st : List Value} {n : Int32} {k : Nat} (hd : decode c.code pc = .ok (.newarray aty, 2)) (hn0 : ¬ n < 0) (hn : n.toNatClampNeg = k) (hb : k * 8 ≤ 536870912) (hc : cells + 1 ≤ R.cells) (hl : slots + k ≤ R.slots) {ad : String} (had : "[" ++ (newarray.typeOf aty).toString = ad) (hq : pc + 2 = q)
    (cont : ∀ (T' : State) (h' : Heap) (a : Addr) (kk : ClassId), a = h.size → Stand p l e R s m args below meth c T' locs (cells + 1) (slots + k) → T'.heap = h' → Ext h h' → Row Z h' a (newarray.typeOf aty) kk (List.replicate k (defaultValue (newarray.typeOf aty))) → Exa Z h' a ad →
      Go p e below Q (T'.setTop (mkF m q Ls (.ref a :: st)))) : Go p e below Q (T.setTop (mkF m pc Ls (.int n :: st))) := by
  subst hq hn
  obtain ⟨T', h', cA, X', e', E', A', D', st'⟩ := newPE X hx hZ w eT (g := mkF m pc Ls (.int n :: st)) rfl hd rfl hn0 (cap := n.toNatClampNeg) (Nat.le_refl _) hb hc hl had
  exact Go.of st' (cont T' h' _ cA rfl X' e' E' ⟨_, A', rfl, by simp [newA]⟩ D')
theorem Go.newobjs (X : Stand p l e R s m args below meth c T locs cells slots) (hx : p.tables.exec = Jvm.exec) (hZ : Z.Warmed39 s.vm) {own C : String} {index : Nat} (hown : s.vm.findClass own = some m.cls) (w1 : (Jvm.Cond.classLink own index C).before a0 Z = true) (w2 : (Jvm.Cond.arrayOver (.object C)).before a0 Z = true) (eT : T.heap = h)
    {pc q : Nat} {Ls : Array Slot} {st : List Value} {n : Int32} {k : Nat} (hd : decode c.code pc = .ok (.anewarray index, 3)) (hn0 : ¬ n < 0) (hn : n.toNatClampNeg = k) (hb : k * 8 ≤ 536870912) (hc : cells + 1 ≤ R.cells) (hl : slots + k ≤ R.slots) {ad : String} (had : "[" ++ (FieldType.object C).toString = ad) (hq : pc + 3 = q)
    (cont : ∀ (T' : State) (h' : Heap) (a : Addr) (kk : ClassId), a = h.size → Stand p l e R s m args below meth c T' locs (cells + 1) (slots + k) → T'.heap = h' → Ext h h' → Row Z h' a (.object C) kk (List.replicate k .null) → Ovr Z kk C → Exa Z h' a ad →
      Go p e below Q (T'.setTop (mkF m q Ls (.ref a :: st)))) : Go p e below Q (T.setTop (mkF m pc Ls (.int n :: st))) := by
  subst hq hn
  obtain ⟨T', h', cA, X', e', E', A', D', O', st'⟩ := newRE X hx hZ hown w1 w2 eT (g := mkF m pc Ls (.int n :: st)) rfl hd rfl hn0 (cap := n.toNatClampNeg) (Nat.le_refl _) hb hc hl had
  exact Go.of st' (cont T' h' _ cA rfl X' e' E' ⟨_, A', rfl, by simp [newA, defaultValue]⟩ O' D')
theorem Go.alen (X : Stand p l e R s m args below meth c T locs cells slots) (hx : p.tables.exec = Jvm.exec) (hZ : Z.Warmed39 s.vm) (eT : T.heap = h) {a : Addr} {ty : FieldType} {k : ClassId} {vs : List Value} (F : Row Z h a ty k vs)
    {pc q : Nat} {Ls : Array Slot} {st : List Value} {n : Int32} (hd : decode c.code pc = .ok (.arraylength, 1)) (hn : vs.length.toInt32 = n) (hq : pc + 1 = q) (g : Go p e below Q (T.setTop (mkF m q Ls (.int n :: st)))) : Go p e below Q (T.setTop (mkF m pc Ls (.ref a :: st))) := by
  subst hq hn
  obtain ⟨cl, A, -, q2⟩ := F
  refine Go.of (fun t r => X.arraylength hx (by rw [eT]; exact A.1) (State.isArrayOf_alike hZ.alike A.2.1) (g := mkF m pc Ls (.ref a :: st)) rfl rfl hd t ?_) g
  rw [q2]; simpa using r
theorem Go.daload (X : Stand p l e R s m args below meth c T locs cells slots) (hx : p.tables.exec = Jvm.exec) (hZ : Z.Warmed39 s.vm) (eT : T.heap = h) {a : Addr} {k : ClassId} {vs : List Value} (F : Row Z h a .double k vs)
    {pc q : Nat} {Ls : Array Slot} {st : List Value} {j : Int32} {i : Nat} {v : Value} (hd : decode c.code pc = .ok (.daload, 1)) (hj : j.toNatClampNeg = i) (hj0 : ¬ j < 0) (hv : vs[i]? = some v) (hq : pc + 1 = q) (g : Go p e below Q (T.setTop (mkF m q Ls (v :: st)))) : Go p e below Q (T.setTop (mkF m pc Ls (.int j :: .ref a :: st))) := by
  subst hq
  obtain ⟨cl, A, -, q2⟩ := F
  exact Go.of (fun t r => X.daload hx (by rw [eT]; exact A.1) (State.isArrayOf_alike hZ.alike A.2.1) A.2.2 (Row.inb q2 hj hj0 hv) (Row.getv q2 hj hv) (g := mkF m pc Ls (.int j :: .ref a :: st)) rfl rfl hd t r) g
theorem Go.faload (X : Stand p l e R s m args below meth c T locs cells slots) (hx : p.tables.exec = Jvm.exec) (hZ : Z.Warmed39 s.vm) (eT : T.heap = h) {a : Addr} {k : ClassId} {vs : List Value} (F : Row Z h a .float k vs)
    {pc q : Nat} {Ls : Array Slot} {st : List Value} {j : Int32} {i : Nat} {v : Value} (hd : decode c.code pc = .ok (.faload, 1)) (hj : j.toNatClampNeg = i) (hj0 : ¬ j < 0) (hv : vs[i]? = some v) (hq : pc + 1 = q) (g : Go p e below Q (T.setTop (mkF m q Ls (v :: st)))) : Go p e below Q (T.setTop (mkF m pc Ls (.int j :: .ref a :: st))) := by
  subst hq
  obtain ⟨cl, A, -, q2⟩ := F
  exact Go.of (fun t r => X.faload hx (by rw [eT]; exact A.1) (State.isArrayOf_alike hZ.alike A.2.1) A.2.2 (Row.inb q2 hj hj0 hv) (Row.getv q2 hj hv) (g := mkF m pc Ls (.int j :: .ref a :: st)) rfl rfl hd t r) g
theorem Go.aaload (X : Stand p l e R s m args below meth c T locs cells slots) (hx : p.tables.exec = Jvm.exec) (hZ : Z.Warmed39 s.vm) (eT : T.heap = h) {a : Addr} {ty : FieldType} {k : ClassId} {vs : List Value} (F : Row Z h a ty k vs) (hty : ty.isReference = true)
    {pc q : Nat} {Ls : Array Slot} {st : List Value} {j : Int32} {i : Nat} {v : Value} (hd : decode c.code pc = .ok (.aaload, 1)) (hj : j.toNatClampNeg = i) (hj0 : ¬ j < 0) (hv : vs[i]? = some v) (hq : pc + 1 = q) (g : Go p e below Q (T.setTop (mkF m q Ls (v :: st)))) : Go p e below Q (T.setTop (mkF m pc Ls (.int j :: .ref a :: st))) := by
  subst hq
  obtain ⟨cl, A, -, q2⟩ := F
  exact Go.of (fun t r => X.aaload hx (by rw [eT]; exact A.1) (State.isArrayOf_alike hZ.alike A.2.1) hty A.2.2 (Row.inb q2 hj hj0 hv) (Row.getv q2 hj hv) (g := mkF m pc Ls (.int j :: .ref a :: st)) rfl rfl hd t r) g
theorem Go.dastore (X : Stand p l e R s m args below meth c T locs cells slots) (hx : p.tables.exec = Jvm.exec) (hZ : Z.Warmed39 s.vm) (eT : T.heap = h) {a : Addr} {k : ClassId} {vs : List Value} (F : Row Z h a .double k vs)
    {pc q : Nat} {Ls : Array Slot} {st : List Value} {j : Int32} {i : Nat} {x : UInt64} {o : Value} (hd : decode c.code pc = .ok (.dastore, 1)) (hj : j.toNatClampNeg = i) (hj0 : ¬ j < 0) (hv : vs[i]? = some o) (hq : pc + 1 = q)
    (cont : ∀ (T' : State) (h' : Heap), Stand p l e R s m args below meth c T' (locs ++ [⟨a, i⟩]) cells slots → T'.heap = h' → Wr h h' a i (.double x) → Row Z h' a .double k (vs.set i (.double x)) → Go p e below Q (T'.setTop (mkF m q Ls st))) : Go p e below Q (T.setTop (mkF m pc Ls (.double x :: .int j :: .ref a :: st))) := by
  subst hq hj
  have F0 := F
  obtain ⟨cl, A, -, q2⟩ := F
  obtain ⟨T', h', X', e', W', st'⟩ := stD X hx hZ eT A (x := x) (Row.inb q2 rfl hj0 hv) (g := mkF m pc Ls (.double x :: .int j :: .ref a :: st)) rfl rfl hd
  exact Go.of st' (cont T' h' X' e' W' (F0.set W'))
theorem Go.aastore (X : Stand p l e R s m args below meth c T locs cells slots) (hx : p.tables.exec = Jvm.exec) (hZ : Z.Warmed39 s.vm) (eT : T.heap = h) {a : Addr} {ty : FieldType} {k : ClassId} {vs : List Value} (F : Row Z h a ty k vs) (hty : ty.isReference = true) {C : String} (O : Ovr Z k C) {b : Addr} (I : Ins Z h b C true)
    {pc q : Nat} {Ls : Array Slot} {st : List Value} {j : Int32} {i : Nat} {o : Value} (hd : decode c.code pc = .ok (.aastore, 1)) (hj : j.toNatClampNeg = i) (hj0 : ¬ j < 0) (hv : vs[i]? = some o) (hq : pc + 1 = q)
    (cont : ∀ (T' : State) (h' : Heap), Stand p l e R s m args below meth c T' (locs ++ [⟨a, i⟩]) cells slots → T'.heap = h' → Wr h h' a i (.ref b) → Row Z h' a ty k (vs.set i (.ref b)) → Go p e below Q (T'.setTop (mkF m q Ls st))) : Go p e below Q (T.setTop (mkF m pc Ls (.ref b :: .int j :: .ref a :: st))) := by
  subst hq hj
  have F0 := F
  obtain ⟨cl, A, q1, q2⟩ := F
  obtain ⟨T', h', X', e', W', st'⟩ := stR X hx hZ eT A (v := .ref b) (Row.inb q2 rfl hj0 hv) hty (Sto.of A (q1 ▸ O) I) (g := mkF m pc Ls (.ref b :: .int j :: .ref a :: st)) rfl rfl hd
  exact Go.of st' (cont T' h' X' e' W' (F0.set W'))
theorem Go.cast (X : Stand p l e R s m args below meth c T locs cells slots) (hx : p.tables.exec = Jvm.exec) (hZ : Z.Warmed39 s.vm) {own K : String} {index : Nat} (hown : s.vm.findClass own = some m.cls) (w : (Jvm.Cond.classLink own index K).before a0 Z = true) (eT : T.heap = h) {a : Addr} (F : Ins Z h a K true)
    {pc q : Nat} {Ls : Array Slot} {st : List Value} (hd : decode c.code pc = .ok (.checkcast index, 3)) (hq : pc + 3 = q)
    (k : ∀ T' : State, Stand p l e R s m args below meth c T' locs cells slots → T'.heap = h → Go p e below Q (T'.setTop (mkF m q Ls (.ref a :: st)))) : Go p e below Q (T.setTop (mkF m pc Ls (.ref a :: st))) := by
  subst hq
  obtain ⟨T', X', e', st'⟩ := castY X hx hZ hown w eT F (g := mkF m pc Ls (.ref a :: st)) rfl rfl hd
  exact Go.of st' (k T' X' e')
theorem Go.clone (X : Stand p l e R s m args below meth c T locs cells slots) (hx : p.tables.exec = Jvm.exec) (hZ : Z.Warmed39 s.vm) {own ad : String} {index : Nat} (hown : s.vm.findClass own = some m.cls)
    (w1 : (Jvm.Cond.methodLink own index ⟨ad, "clone", "()Ljava/lang/Object;"⟩).before a0 Z = true) (w2 : (Jvm.Cond.sameMethod ad "java/lang/Object" "clone" "()Ljava/lang/Object;").before a0 Z = true) (w3 : (Jvm.Cond.native ⟨"java/lang/Object", "clone", "()Ljava/lang/Object;"⟩).before a0 Z = true)
    (w4 : (Jvm.Cond.instanceMethod ⟨"java/lang/Object", "clone", "()Ljava/lang/Object;"⟩).before a0 Z = true) (w5 : (Jvm.Cond.selects ad ⟨ad, "clone", "()Ljava/lang/Object;"⟩ ⟨"java/lang/Object", "clone", "()Ljava/lang/Object;"⟩).before a0 Z = true) (w6 : (Jvm.Cond.castable ad "java/lang/Cloneable").before a0 Z = true)
    (eT : T.heap = h) {a : Addr} {ty : FieldType} {kc : ClassId} {vs : List Value} (F : Row Z h a ty kc vs) (E : Exa Z h a ad) (hfit : vs.all (fun v => fits ty v) = true) {pc q : Nat} {Ls : Array Slot} {st : List Value} (hd : decode c.code pc = .ok (.invokevirtual index, 3)) (hsz : Ls.size = c.maxLocals) (hf : 1 ≤ R.frames) {W : Nat} (hW : (st.map fun v => v.category).sum ≤ W) (hl : W + 14 ≤ R.locals) {k : Nat} (hk : vs.length = k) (hc : cells + 1 ≤ R.cells) (hs : slots + k ≤ R.slots) (hq : pc + 3 = q)
    (cont : ∀ (T' : State) (h' : Heap) (b : Addr), b = h.size → Stand p l e R s m args below meth c T' locs (cells + 1) (slots + k) → T'.heap = h' → Ext h h' → Row Z h' b ty kc vs → Exa Z h' b ad → Go p e below Q (T'.setTop (mkF m q Ls (.ref b :: st)))) : Go p e below Q (T.setTop (mkF m pc Ls (.ref a :: st))) := by
  subst hq hk
  obtain ⟨cl, A, q1, q2⟩ := F
  have hsize : cl.slots.size = vs.length := by rw [q2]; simp
  have FC : FitC Z cl := fitC_of A fun i hi v hv => by
    rw [q2] at hv
    have : v ∈ vs := List.mem_of_getElem? (by simpa using hv)
    exact List.all_eq_true.mp hfit v this
  obtain ⟨T', h', X', e', E', A', D', st'⟩ := cloneA X hx hZ hown w1 w2 w3 w4 w5 w6 eT A E FC (g := mkF m pc Ls (.ref a :: st)) rfl hsz rfl hd hf (W := W) (by show 2 * 0 + _ ≤ _; omega) hl (cap := vs.length) (by rw [hsize]; exact Nat.le_refl _) hc hs
  exact Go.of st' (cont T' h' _ rfl X' e' E' ⟨cloneOf cl, A', q1, q2⟩ D')
theorem Go.fastore (X : Stand p l e R s m args below meth c T locs cells slots) (hx : p.tables.exec = Jvm.exec) (hZ : Z.Warmed39 s.vm) (eT : T.heap = h) {a : Addr} {k : ClassId} {vs : List Value} (F : Row Z h a .float k vs)
    {pc q : Nat} {Ls : Array Slot} {st : List Value} {j : Int32} {i : Nat} {x : UInt32} {o : Value} (hd : decode c.code pc = .ok (.fastore, 1)) (hj : j.toNatClampNeg = i) (hj0 : ¬ j < 0) (hv : vs[i]? = some o) (hq : pc + 1 = q)
    (cont : ∀ (T' : State) (h' : Heap), Stand p l e R s m args below meth c T' (locs ++ [⟨a, i⟩]) cells slots → T'.heap = h' → Wr h h' a i (.float x) → Row Z h' a .float k (vs.set i (.float x)) → Go p e below Q (T'.setTop (mkF m q Ls st))) : Go p e below Q (T.setTop (mkF m pc Ls (.float x :: .int j :: .ref a :: st))) := by
  subst hq hj
  have F0 := F
  obtain ⟨cl, A, -, q2⟩ := F
  obtain ⟨X', st'⟩ := X.fastore hx (x := x) (by rw [eT]; exact A.1) (State.isArrayOf_alike hZ.alike A.2.1) A.2.2 (Row.inb q2 rfl hj0 hv) (g := mkF m pc Ls (.float x :: .int j :: .ref a :: st)) rfl rfl hd
  have W' : Wr h (T.setCell a (cl.setSlot j.toNatClampNeg (.float x))).heap a j.toNatClampNeg (.float x) := ⟨cl, A.1, A.plain, Nat.lt_of_not_le fun z => Row.inb q2 rfl hj0 hv (Or.inr z), by rw [← eT]; rfl⟩
  exact Go.of st' (cont _ _ X' rfl W' (F0.set W'))
end OwnArr

theorem pd0 : parseMethodDescriptor "(I)V" = some ⟨[.int], none⟩ := by decide +kernel
theorem pd1 : parseMethodDescriptor "([D)V" = some ⟨[(.array .double)], none⟩ := by decide +kernel
theorem pd2 : parseMethodDescriptor "()I" = some ⟨[], some .int⟩ := by decide +kernel
theorem pd3 : parseMethodDescriptor "()[D" = some ⟨[], some (.array .double)⟩ := by decide +kernel
theorem pd4 : parseMethodDescriptor "(J)D" = some ⟨[.long], some .double⟩ := by decide +kernel
theorem pd5 : parseMethodDescriptor "(JJ)D" = some ⟨[.long, .long], some .double⟩ := by decide +kernel

section OwnLaw
open Jvm.FP Jvm.FP.Core Jvm.Free.Fl
/-- x is n quarters -/
def Qn (x : UInt64) (n : Int) : Prop := DFin x ∧ Zv x = n * P2 1072
theorem q74 : P2 1074 = 4 * P2 1072 := by rw [show (1074 : Nat) = 2 + 1072 from rfl, P2_add]; rfl
theorem q_rep {n : Int} (h : n.natAbs ≤ 2 ^ 53) : Rep (n * P2 1072) := rep_mk n 1072 h (by decide)
theorem q_i2d {n : Int32} {x : UInt64} (h : FP.i2d n = x) : Qn x (4 * n.toInt) := by
  subst h; refine ⟨i2d_dfin n, ?_⟩
  rw [i2d_eq, q74, ← Int.mul_assoc, Int.mul_comm n.toInt]
theorem q_l2d {n : Int64} {x : UInt64} (h : FP.l2d n = x) (b : n.toInt.natAbs ≤ 2 ^ 53) : Qn x (4 * n.toInt) := by
  subst h; refine ⟨l2d_dfin n, ?_⟩
  rw [l2d_eq b, q74, ← Int.mul_assoc, Int.mul_comm n.toInt]
theorem q_zero : Qn 0 0 := ⟨zero_fin, by rw [zero_z, Int.zero_mul]⟩
theorem q_half : Qn 4602678819172646912 2 := ⟨(fin_bits _).mpr (by decide), by unfold Zv P2; decide +kernel⟩
theorem q_quart : Qn 4598175219545276416 1 := ⟨(fin_bits _).mpr (by decide), by unfold Zv P2; decide +kernel⟩
theorem q_add {x y : UInt64} {a b : Int} (hx : Qn x a) (hy : Qn y b) (h : (a + b).natAbs ≤ 2 ^ 53) : Qn (FP.dadd x y) (a + b) := add_eq hx.1 hy.1 (q_rep h) (by rw [hx.2, hy.2, Int.add_mul])
theorem q_sub {x y : UInt64} {a b : Int} (hx : Qn x a) (hy : Qn y b) (h : (a - b).natAbs ≤ 2 ^ 53) : Qn (FP.dsub x y) (a - b) := sub_eq hx.1 hy.1 (q_rep h) (by rw [hx.2, hy.2, Int.sub_mul])
theorem q_mul {x y : UInt64} {a b r : Int} (hx : Qn x a) (hy : Qn y b) (e : a * b = 4 * r) (h : r.natAbs ≤ 2 ^ 53) : Qn (FP.dmul x y) r := by
  refine mul_eq hx.1 hy.1 (q_rep h) ?_
  rw [hx.2, hy.2, q74]
  calc a * P2 1072 * (b * P2 1072) = a * b * (P2 1072 * P2 1072) := by ((try generalize P2 1074 = U1); (try generalize P2 1073 = U2); (try generalize P2 1072 = U3); (try generalize P2 1021 = U6); (try generalize P2 53 = U7); (try generalize P2 1049 = U8); (try generalize P2 1045 = U9); (try generalize P2 1047 = V1); (try generalize P2 1048 = V2); ac_rfl)
    _ = 4 * r * (P2 1072 * P2 1072) := by rw [e]
    _ = _ := by ((try generalize P2 1074 = U1); (try generalize P2 1073 = U2); (try generalize P2 1072 = U3); (try generalize P2 1021 = U6); (try generalize P2 53 = U7); (try generalize P2 1049 = U8); (try generalize P2 1045 = U9); (try generalize P2 1047 = V1); (try generalize P2 1048 = V2); ac_rfl)
theorem q_div {x y : UInt64} {a b r : Int} (hx : Qn x a) (hy : Qn y (4 * b)) (hb : 0 < b) (e : a = r * b) (h : r.natAbs ≤ 2 ^ 53) : Qn (FP.ddiv x y) r := by
  have hP := P2_pos 1072
  refine div_eq hx.1 hy.1 (by rw [hy.2]; exact Int.mul_pos (by omega) hP) (q_rep h) ?_
  rw [hx.2, hy.2, q74, e]; ((try generalize P2 1074 = U1); (try generalize P2 1073 = U2); (try generalize P2 1072 = U3); (try generalize P2 1021 = U6); (try generalize P2 53 = U7); (try generalize P2 1049 = U8); (try generalize P2 1045 = U9); (try generalize P2 1047 = V1); (try generalize P2 1048 = V2); ac_rfl)
theorem q_cmp {x y : UInt64} {a : Int} (hx : Qn x a) (hy : Qn y a) (o : CmpOp) : cmpValue (FP.dcmp x y) o = 0 := cmp_eq hx.1 hy.1 o (hx.2.trans hy.2.symm)
/-- the new mean and the new sum of squares -/
def own_m (n : Int32) (x m : UInt64) : UInt64 := FP.dadd m (FP.ddiv (FP.dsub x m) (FP.i2d (n + 1)))
def own_s (n : Int32) (x m s : UInt64) : UInt64 := FP.dadd s (FP.dmul (FP.dsub x m) (FP.dsub x (own_m n x m)))
def own_ok (n : Int32) (x m s : UInt64) : Prop := NoNaN64 (FP.dsub x m) ∧ NoNaN64 (FP.ddiv (FP.dsub x m) (FP.i2d (n + 1))) ∧ NoNaN64 (own_m n x m) ∧ NoNaN64 (FP.dsub x (own_m n x m)) ∧ NoNaN64 (FP.dmul (FP.dsub x m) (FP.dsub x (own_m n x m))) ∧ NoNaN64 (own_s n x m s)
theorem own_step {n : Int32} {x m s : UInt64} {X M S E G : Int} (b : Int) (hn : (n + 1).toInt = b) (hb : 0 < b) (hx : Qn x X) (hm : Qn m M) (hs : Qn s S) (e1 : X - M = E * b) (e2 : (X - M) * (X - (M + E)) = 4 * G) (h1 : (X - M).natAbs ≤ 2 ^ 50) (h2 : E.natAbs ≤ 2 ^ 50) (h3 : (M + E).natAbs ≤ 2 ^ 50) (h4 : (X - (M + E)).natAbs ≤ 2 ^ 50) (h5 : G.natAbs ≤ 2 ^ 50) (h6 : (S + G).natAbs ≤ 2 ^ 50) :
    own_ok n x m s ∧ Qn (own_m n x m) (M + E) ∧ Qn (own_s n x m s) (S + G) := by
  have c1 := q_sub hx hm (by omega)
  have hc : Qn (FP.i2d (n + 1)) (4 * b) := hn ▸ q_i2d rfl
  have c2 := q_div (r := E) c1 hc hb e1 (by omega)
  have c3 : Qn (own_m n x m) (M + E) := q_add hm c2 (by omega)
  have c4 := q_sub hx c3 (by omega)
  have c5 := q_mul (r := G) c1 c4 e2 (by omega)
  have c6 : Qn (own_s n x m s) (S + G) := q_add hs c5 (by omega)
  exact ⟨⟨(nn_of c1.1), (nn_of c2.1), (nn_of c3.1), (nn_of c4.1), (nn_of c5.1), (nn_of c6.1)⟩, c3, c6⟩
def own_ref2 (e : Int64) : UInt64 := FP.dmul (FP.l2d (e * e)) 4602678819172646912
def own_ref3 (e k : Int64) : UInt64 := FP.dmul (FP.l2d (e * e + (3 * k) * k)) 4598175219545276416
theorem own_mulnn {n : Int64} {x c : UInt64} (h : FP.l2d n = x) (hc : DFin c) : NoNaN64 (FP.dmul x c) := by subst h; exact noNaN64_no.mpr (Core.dmul_out (l2d_dfin n) hc)
theorem own_rng {x u v : Int32} (h1 : x <<< ((12 : Int32) &&& 31) = u) (h2 : u >>> ((12 : Int32) &&& 31) = v) : -524288 ≤ v.toInt ∧ v.toInt < 524288 := by
  have e := c_ishr u 12 12 (by decide)
  have e' : v.toInt = u.toInt / (2 ^ 12 : Nat) := by rw [← h2]; exact e
  have r := rng32 u
  omega
theorem own_selfc {x : UInt64} (h : DFin x) (o : CmpOp) : cmpValue (FP.dcmp x x) o = 0 := cmp_eq h h o rfl
/-- one coordinate, through three points -/
theorem own_col {a e k t1 t2 t3 t4 t5 : Int32} {y1 y2 y0 y3 : UInt64} (ba : -524288 ≤ a.toInt ∧ a.toInt < 524288) (be : -524288 ≤ e.toInt ∧ e.toInt < 524288) (bk : -524288 ≤ k.toInt ∧ k.toInt < 524288)
    (h1 : FP.i2d a = y1) (g1 : a + e = t1) (h2 : FP.i2d t1 = y2) (g2 : 2 * a = t2) (g3 : t2 + e = t3) (g4 : 3 * k = t4) (g5 : t3 + t4 = t5) (h3 : FP.i2d t5 = y0) (h4 : FP.dmul y0 4602678819172646912 = y3) :
    own_ok 0 y1 0 0 ∧ own_ok 1 y2 (own_m 0 y1 0) (own_s 0 y1 0 0) ∧ own_ok 2 y3 (own_m 1 y2 (own_m 0 y1 0)) (own_s 1 y2 (own_m 0 y1 0) (own_s 0 y1 0 0)) ∧
    Qn (own_s 1 y2 (own_m 0 y1 0) (own_s 0 y1 0 0)) (2 * (e.toInt * e.toInt)) ∧ Qn (own_s 2 y3 (own_m 1 y2 (own_m 0 y1 0)) (own_s 1 y2 (own_m 0 y1 0) (own_s 0 y1 0 0))) (2 * (e.toInt * e.toInt) + 6 * (k.toInt * k.toInt)) ∧ NoNaN64 (FP.dmul y0 4602678819172646912) ∧ NoNaN64 y1 ∧ NoNaN64 y2 ∧ DFin y3 := by
  have i1 := c_iadd a e
  rw [g1] at i1
  have i2 := c_imul 2 a
  have o2 : (2 : Int32).toInt = 2 := rfl
  rw [g2, o2] at i2
  have i3 := c_iadd t2 e
  rw [g3] at i3
  have i4 := c_imul 3 k
  have o3 : (3 : Int32).toInt = 3 := rfl
  rw [g4, o3] at i4
  have i5 := c_iadd t3 t4
  rw [g5] at i5
  have r1 := rng32 t1
  have r2 := rng32 t2
  have r3 := rng32 t3
  have r4 := rng32 t4
  have r5 := rng32 t5
  have v1 : t1.toInt = a.toInt + e.toInt := by omega
  have v5 : t5.toInt = 2 * a.toInt + e.toInt + 3 * k.toInt := by omega
  have q1 := q_i2d h1
  have q2 := q_i2d h2
  have q0 := q_i2d h3
  rw [v1] at q2
  rw [v5] at q0
  have q3 : Qn (FP.dmul y0 4602678819172646912) (4 * a.toInt + 2 * e.toInt + 6 * k.toInt) := q_mul q0 q_half (by omega) (by omega)
  have n3 := (nn_of q3.1)
  rw [h4] at q3
  have ee : 0 ≤ e.toInt * e.toInt ∧ e.toInt * e.toInt ≤ 274877906944 := by
    have m := mc (a := e.toInt) (b := e.toInt) (l1 := -524288) (h1 := 524288) (l2 := -524288) (h2 := 524288) (by omega) (by omega) (by omega) (by omega)
    refine ⟨?_, by omega⟩
    rcases Int.le_total 0 e.toInt with z | z
    · exact Int.mul_nonneg z z
    · exact Int.mul_nonneg_of_nonpos_of_nonpos z z
  have kk : 0 ≤ k.toInt * k.toInt ∧ k.toInt * k.toInt ≤ 274877906944 := by
    have m := mc (a := k.toInt) (b := k.toInt) (l1 := -524288) (h1 := 524288) (l2 := -524288) (h2 := 524288) (by omega) (by omega) (by omega) (by omega)
    refine ⟨?_, by omega⟩
    rcases Int.le_total 0 k.toInt with z | z
    · exact Int.mul_nonneg z z
    · exact Int.mul_nonneg_of_nonpos_of_nonpos z z
  obtain ⟨k1, m1, s1⟩ := own_step (n := 0) (G := 0) (E := 4 * a.toInt) 1 (by decide) (by decide) q1 q_zero q_zero (by omega) (by rw [show 4 * a.toInt - (0 + 4 * a.toInt) = 0 by omega]; simp) (by omega) (by omega) (by omega) (by omega) (by omega) (by omega)
  obtain ⟨k2, m2, s2⟩ := own_step (n := 1) (G := 2 * (e.toInt * e.toInt)) (E := 2 * e.toInt) 2 (by decide) (by decide) q2 m1 s1 (by omega) (by
    rw [show 4 * (a.toInt + e.toInt) - (0 + 4 * a.toInt) = 4 * e.toInt by omega, show 4 * (a.toInt + e.toInt) - (0 + 4 * a.toInt + 2 * e.toInt) = 2 * e.toInt by omega]
    ((try generalize P2 1074 = U1); (try generalize P2 1073 = U2); (try generalize P2 1072 = U3); (try generalize P2 1021 = U6); (try generalize P2 53 = U7); (try generalize P2 1049 = U8); (try generalize P2 1045 = U9); (try generalize P2 1047 = V1); (try generalize P2 1048 = V2); ac_rfl)) (by omega) (by omega) (by omega) (by omega) (by omega) (by omega)
  obtain ⟨k3, m3, s3⟩ := own_step (n := 2) (G := 6 * (k.toInt * k.toInt)) (E := 2 * k.toInt) 3 (by decide) (by decide) q3 m2 s2 (by omega) (by
    rw [show 4 * a.toInt + 2 * e.toInt + 6 * k.toInt - (0 + 4 * a.toInt + 2 * e.toInt) = 6 * k.toInt by omega, show 4 * a.toInt + 2 * e.toInt + 6 * k.toInt - (0 + 4 * a.toInt + 2 * e.toInt + 2 * k.toInt) = 4 * k.toInt by omega]
    ((try generalize P2 1074 = U1); (try generalize P2 1073 = U2); (try generalize P2 1072 = U3); (try generalize P2 1021 = U6); (try generalize P2 53 = U7); (try generalize P2 1049 = U8); (try generalize P2 1045 = U9); (try generalize P2 1047 = V1); (try generalize P2 1048 = V2); ac_rfl)) (by omega) (by omega) (by omega) (by omega) (by omega) (by omega)
  refine ⟨k1, k2, k3, ?_, ?_, n3, (nn_of q1.1), (nn_of q2.1), q3.1⟩
  · rw [show 2 * (e.toInt * e.toInt) = 0 + 0 + 2 * (e.toInt * e.toInt) by omega]; exact s2
  · rw [show 2 * (e.toInt * e.toInt) + 6 * (k.toInt * k.toInt) = 0 + 0 + 2 * (e.toInt * e.toInt) + 6 * (k.toInt * k.toInt) by omega]; exact s3
theorem own_var2 {e : Int32} {s : UInt64} {el : Int64} (be : -524288 ≤ e.toInt ∧ e.toInt < 524288) (h : Qn s (2 * (e.toInt * e.toInt))) (he : e.toInt64 = el) : NoNaN64 (FP.ddiv s (FP.i2d (2 - 1))) ∧ ∀ o, cmpValue (FP.dcmp (FP.ddiv s (FP.i2d (2 - 1))) (own_ref2 el)) o = 0 := by
  have a1 := c_i2l e
  rw [he] at a1
  have a2 := c_lmul el el
  have r := rng64 (el * el)
  have m := mc (a := e.toInt) (b := e.toInt) (l1 := -524288) (h1 := 524288) (l2 := -524288) (h2 := 524288) (by omega) (by omega) (by omega) (by omega)
  have v : (el * el).toInt = e.toInt * e.toInt := by rw [a1] at a2; omega
  have q := q_l2d (n := el * el) rfl (by rw [v]; omega)
  rw [v] at q
  have w : Qn (own_ref2 el) (2 * (e.toInt * e.toInt)) := q_mul q q_half (by omega) (by omega)
  have hc : Qn (FP.i2d (2 - 1)) (4 * 1) := by have h := q_i2d (n := (2 : Int32) - 1) rfl; rw [show ((2 : Int32) - 1).toInt = 1 from by decide] at h; exact h
  have d := q_div (r := 2 * (e.toInt * e.toInt)) h hc (by decide) (by omega) (by omega)
  exact ⟨(nn_of d.1), fun o => q_cmp d w o⟩
theorem own_var3 {e k : Int32} {s : UInt64} {el kl : Int64} (be : -524288 ≤ e.toInt ∧ e.toInt < 524288) (bk : -524288 ≤ k.toInt ∧ k.toInt < 524288) (h : Qn s (2 * (e.toInt * e.toInt) + 6 * (k.toInt * k.toInt))) (he : e.toInt64 = el) (hk : k.toInt64 = kl) : NoNaN64 (FP.ddiv s (FP.i2d (3 - 1))) ∧ ∀ o, cmpValue (FP.dcmp (FP.ddiv s (FP.i2d (3 - 1))) (own_ref3 el kl)) o = 0 := by
  have a1 := c_i2l e
  rw [he] at a1
  have a1' := c_i2l k
  rw [hk] at a1'
  have a2 := c_lmul el el
  have a3 := c_lmul 3 kl
  have o3 : (3 : Int64).toInt = 3 := rfl
  rw [o3] at a3
  have r2 := rng64 (el * el)
  have r3 := rng64 (3 * kl)
  have m := mc (a := e.toInt) (b := e.toInt) (l1 := -524288) (h1 := 524288) (l2 := -524288) (h2 := 524288) (by omega) (by omega) (by omega) (by omega)
  have m' := mc (a := k.toInt) (b := k.toInt) (l1 := -524288) (h1 := 524288) (l2 := -524288) (h2 := 524288) (by omega) (by omega) (by omega) (by omega)
  have v2 : (el * el).toInt = e.toInt * e.toInt := by rw [a1] at a2; omega
  have v3 : (3 * kl).toInt = 3 * k.toInt := by rw [a1'] at a3; omega
  have a4 := c_lmul (3 * kl) kl
  rw [v3, a1'] at a4
  have r4 := rng64 (3 * kl * kl)
  have x4 : 3 * k.toInt * k.toInt = 3 * (k.toInt * k.toInt) := Int.mul_assoc _ _ _
  have v4 : (3 * kl * kl).toInt = 3 * (k.toInt * k.toInt) := by rw [x4] at a4; omega
  have a5 := c_ladd (el * el) (3 * kl * kl)
  have r5 := rng64 (el * el + 3 * kl * kl)
  have v5 : (el * el + 3 * kl * kl).toInt = e.toInt * e.toInt + 3 * (k.toInt * k.toInt) := by omega
  have q := q_l2d (n := el * el + 3 * kl * kl) rfl (by rw [v5]; omega)
  rw [v5] at q
  have w : Qn (own_ref3 el kl) (e.toInt * e.toInt + 3 * (k.toInt * k.toInt)) := q_mul q q_quart (by omega) (by omega)
  have hc : Qn (FP.i2d (3 - 1)) (4 * 2) := by have h := q_i2d (n := (3 : Int32) - 1) rfl; rw [show ((3 : Int32) - 1).toInt = 2 from by decide] at h; exact h
  have d := q_div (r := e.toInt * e.toInt + 3 * (k.toInt * k.toInt)) h hc (by decide) (by omega) (by omega)
  exact ⟨(nn_of d.1), fun o => q_cmp d w o⟩
end OwnLaw

theorem d1_0 : decode prog_15_method_1_code 0 = .ok (.aload_n 0, 1) := by decide +kernel
theorem d1_1 : decode prog_15_method_1_code 1 = .ok (.invokespecial 1, 3) := by decide +kernel
theorem d1_4 : decode prog_15_method_1_code 4 = .ok (.aload_n 0, 1) := by decide +kernel
theorem d1_5 : decode prog_15_method_1_code 5 = .ok (.iload_n 1, 1) := by decide +kernel
theorem d1_6 : decode prog_15_method_1_code 6 = .ok (.newarray .double, 2) := by decide +kernel
theorem d1_8 : decode prog_15_method_1_code 8 = .ok (.putfield 7, 3) := by decide +kernel
theorem d1_11 : decode prog_15_method_1_code 11 = .ok (.aload_n 0, 1) := by decide +kernel
theorem d1_12 : decode prog_15_method_1_code 12 = .ok (.iload_n 1, 1) := by decide +kernel
theorem d1_13 : decode prog_15_method_1_code 13 = .ok (.newarray .double, 2) := by decide +kernel
theorem d1_15 : decode prog_15_method_1_code 15 = .ok (.putfield 13, 3) := by decide +kernel
theorem d1_18 : decode prog_15_method_1_code 18 = .ok (.return_, 1) := by decide +kernel
set_option maxRecDepth 65536 in
set_option maxHeartbeats 40000000 in
theorem rm_init (l : Launch) (Z : State) (a0 : Array Value) (hw : ∀ d ∈ tables_1, d.before a0 Z = true) (a1 : Addr) (o1 : Value) (o2 : Value) (o3 : Value) (h0 : Heap) (n0 : Nat) (Z0 : n0 ≤ h0.size) (E1 : Exa Z h0 a1 "com/example/ratewright/ratewright/inference/RunningVariance") (F1 : Fld Z h0 a1 "com/example/ratewright/ratewright/inference/RunningVariance" "mean" "[D" o1) (F2 : Fld Z h0 a1 "com/example/ratewright/ratewright/inference/RunningVariance" "sumOfSquares" "[D" o2) (F3 : Fld Z h0 a1 "com/example/ratewright/ratewright/inference/RunningVariance" "count" "I" o3) (g1 : n0 ≤ a1) :
    Con l Z (⟨"com/example/ratewright/ratewright/inference/RunningVariance", "<init>", "(I)V"⟩ : MethodName) prog_15_method_1_code 2 none ({ frames := 1, cells := 2, slots := 4, locals := 12 } : Room) #[(.ref a1), (.int (2 : Int32))] h0 (fun vR hR LR => ∃ (am : Addr) (as' : Addr) (km : ClassId) (ks : ClassId), vR = none ∧ Fr n0 LR ∧ Keep h0 hR [a1] ∧ h0.size ≤ am ∧ h0.size ≤ as' ∧ Exa Z hR a1 "com/example/ratewright/ratewright/inference/RunningVariance" ∧ Fld Z hR a1 "com/example/ratewright/ratewright/inference/RunningVariance" "mean" "[D" (.ref am) ∧ Fld Z hR a1 "com/example/ratewright/ratewright/inference/RunningVariance" "sumOfSquares" "[D" (.ref as') ∧ Fld Z hR a1 "com/example/ratewright/ratewright/inference/RunningVariance" "count" "I" o3 ∧ Row Z hR am .double km [(.double (0 : UInt64)), (.double (0 : UInt64))] ∧ Row Z hR as' .double ks [(.double (0 : UInt64)), (.double (0 : UInt64))] ∧ am ≠ as') := by
  refine enter (l := l) (Z := Z) (y := (⟨"com/example/ratewright/ratewright/inference/RunningVariance", "<init>", "(I)V"⟩ : MethodName)) (bytes := prog_15_method_1_code) (maxL := 2) (ret := none) (ws := []) (rm := ({ frames := 1, cells := 2, slots := 4, locals := 12 } : Room)) (as' := #[(.ref a1), (.int (2 : Int32))]) (h0 := h0) (Qv := (fun vR hR LR => ∃ (am : Addr) (as' : Addr) (km : ClassId) (ks : ClassId), vR = none ∧ Fr n0 LR ∧ Keep h0 hR [a1] ∧ h0.size ≤ am ∧ h0.size ≤ as' ∧ Exa Z hR a1 "com/example/ratewright/ratewright/inference/RunningVariance" ∧ Fld Z hR a1 "com/example/ratewright/ratewright/inference/RunningVariance" "mean" "[D" (.ref am) ∧ Fld Z hR a1 "com/example/ratewright/ratewright/inference/RunningVariance" "sumOfSquares" "[D" (.ref as') ∧ Fld Z hR a1 "com/example/ratewright/ratewright/inference/RunningVariance" "count" "I" o3 ∧ Row Z hR am .double km [(.double (0 : UInt64)), (.double (0 : UInt64))] ∧ Row Z hR as' .double ks [(.double (0 : UInt64)), (.double (0 : UInt64))] ∧ am ≠ as')) (kc := 2) (ks := 4) (by first | exact plainFor_of_name (by first | (simp [plainName, overriddenIn]; done) | decide +kernel) | decide +kernel) (Ls := #[.val (.ref a1), .val (.int (2 : Int32))]) (fun m => by first | (simp [entryFrame, mkF, argsToLocals, Value.category]; done) | rfl) ?_
  intro p e s m below meth c s₁ hx hby hml hown hnm hret hlk hZ X0 e0
  have hown : s.vm.findClass "com/example/ratewright/ratewright/inference/RunningVariance" = some m.cls := hown
  have hml : c.maxLocals = 2 := hml
  have N0 := Fr.nil n0
  refine Go.aloadN X0.here hx (Jvm.hb hby d1_0) rfl rfl (q := 1) rfl ?_
  refine Go.init X0 hx hZ hown (word hw 8 rfl) (word hw 9 rfl) (word hw 10 rfl) e0 (Jvm.hb hby d1_1) (by rw [hml]; rfl) (by decide) (W := 0) (Nat.le_of_eq rfl) (by decide) (q := 4) rfl ?_
  intro T101 X101 e101
  refine Go.aloadN X101.here hx (Jvm.hb hby d1_4) rfl rfl (q := 5) rfl ?_
  refine Go.iloadN X101.here hx (Jvm.hb hby d1_5) rfl (q := 6) rfl ?_
  refine Go.newarr X101 hx hZ (aty := .double) (word hw 1 rfl) e101 (Jvm.hb hby d1_6) (by decide) (k := 2) (by decide) (by decide) (by decide) (by decide) (ad := "[D") (by decide) (q := 8) rfl ?_
  intro T102 h102 a102 kk102 g102 X102 e102 E102 R102 A102
  have r103 : n0 ≤ a102 := Nat.le_trans Z0 (Nat.le_of_eq g102.symm)
  have y103 : h0.size ≤ a102 := Nat.le_trans (Keep.refl h0 [a1]).1 (Nat.le_of_eq g102.symm)
  have R102 : Row Z h102 a102 .double kk102 [(.double (0 : UInt64)), (.double (0 : UInt64))] := R102
  have f105 := F1.ext E102
  have f106 := E1.ext E102
  refine Go.putf X102 hx hZ hown (word hw 11 rfl) e102 f105 f106 (Or.inr ⟨(word hw 12 rfl), rfl, hnm⟩) (word hw 3 rfl) (ty := (.array .double)) (by decide) rfl rfl (Jvm.hb hby d1_8) (q := 11) rfl ?_
  intro T104 h104 X104 e104 W104
  have N104 := Fr.snoc X104 N0 g1
  have F104 := f105.same W104
  refine Go.aloadN X104.here hx (Jvm.hb hby d1_11) rfl rfl (q := 12) rfl ?_
  refine Go.iloadN X104.here hx (Jvm.hb hby d1_12) rfl (q := 13) rfl ?_
  refine Go.newarr X104 hx hZ (aty := .double) (word hw 1 rfl) e104 (Jvm.hb hby d1_13) (by decide) (k := 2) (by decide) (by decide) (by decide) (by decide) (ad := "[D") (by decide) (q := 15) rfl ?_
  intro T107 h107 a107 kk107 g107 X107 e107 E107 R107 A107
  have z108 : n0 ≤ h102.size := Nat.le_trans Z0 E102.1
  have z109 : n0 ≤ h104.size := Nat.le_trans z108 (Nat.le_of_eq W104.size.symm)
  have r110 : n0 ≤ a107 := Nat.le_trans z109 (Nat.le_of_eq g107.symm)
  have k111 : Keep h0 h102 [a1] := (Keep.refl h0 [a1]).ext E102
  have k112 : Keep h0 h104 [a1] := k111.wr W104 (Or.inl (List.mem_of_getElem? (i := 0) rfl))
  have y110 : h0.size ≤ a107 := Nat.le_trans k112.1 (Nat.le_of_eq g107.symm)
  have R107 : Row Z h107 a107 .double kk107 [(.double (0 : UInt64)), (.double (0 : UInt64))] := R107
  have f114 := F2.ext E102
  have f115 := f114.other W104 (Or.inr (Jvm.RoadKit.slot_ne (Or.inr (word hw 14 rfl)) (Or.inr (word hw 12 rfl)) (by decide) (t := (.array .double)) (t' := (.array .double)) (by decide) (by decide)))
  have f116 := f115.ext E107
  have f117 := f106.wr W104
  have f118 := f117.ext E107
  refine Go.putf X107 hx hZ hown (word hw 13 rfl) e107 f116 f118 (Or.inr ⟨(word hw 14 rfl), rfl, hnm⟩) (word hw 3 rfl) (ty := (.array .double)) (by decide) rfl rfl (Jvm.hb hby d1_15) (q := 18) rfl ?_
  intro T113 h113 X113 e113 W113
  have N113 := Fr.snoc X113 N104 g1
  have F113 := f116.same W113
  have k119 : Keep h0 h107 [a1] := k112.ext E107
  have k120 : Keep h0 h113 [a1] := k119.wr W113 (Or.inl (List.mem_of_getElem? (i := 0) rfl))
  have f121 := f118.wr W113
  have f122 := F104.ext E107
  have f123 := f122.other W113 (Or.inr (Jvm.RoadKit.slot_ne (Or.inr (word hw 12 rfl)) (Or.inr (word hw 14 rfl)) (by decide) (t := (.array .double)) (t' := (.array .double)) (by decide) (by decide)))
  have f124 := F3.ext E102
  have f125 := f124.other W104 (Or.inr (Jvm.RoadKit.slot_ne (Or.inl (word hw 21 rfl)) (Or.inr (word hw 12 rfl)) (by decide) (t := .int) (t' := (.array .double)) (by decide) (by decide)))
  have f126 := f125.ext E107
  have f127 := f126.other W113 (Or.inr (Jvm.RoadKit.slot_ne (Or.inl (word hw 21 rfl)) (Or.inr (word hw 14 rfl)) (by decide) (t := .int) (t' := (.array .double)) (by decide) (by decide)))
  have ne129 : a1 ≠ a102 := Nat.ne_of_lt (Nat.lt_of_lt_of_le E1.lt (Nat.le_of_eq g102.symm))
  have f128 := R102.other W104 (Ne.symm ne129)
  have f130 := f128.ext E107
  have f131 := f130.other W113 (Ne.symm ne129)
  have ne133 : a1 ≠ a107 := Nat.ne_of_lt (Nat.lt_of_lt_of_le f117.lt (Nat.le_of_eq g107.symm))
  have f132 := R107.other W113 (Ne.symm ne133)
  have ne134 : a102 ≠ a107 := Nat.ne_of_lt (Nat.lt_of_lt_of_le f128.lt (Nat.le_of_eq g107.symm))
  refine Go.retV X113 hx hret hlk (Jvm.hb hby d1_18) (by decide) (by decide) ?_
  rw [e113]
  exact ⟨a102, a107, kk102, kk107, rfl, N113, k120, y103, y110, f121, f123, F113, f127, f131, f132, ne134⟩
theorem d3_0 : decode prog_15_method_2_code 0 = .ok (.aload_n 0, 1) := by decide +kernel
theorem d3_1 : decode prog_15_method_2_code 1 = .ok (.dup, 1) := by decide +kernel
theorem d3_2 : decode prog_15_method_2_code 2 = .ok (.getfield 16, 3) := by decide +kernel
theorem d3_5 : decode prog_15_method_2_code 5 = .ok (.iconst 1, 1) := by decide +kernel
theorem d3_6 : decode prog_15_method_2_code 6 = .ok (.iadd, 1) := by decide +kernel
theorem d3_7 : decode prog_15_method_2_code 7 = .ok (.putfield 16, 3) := by decide +kernel
theorem d3_10 : decode prog_15_method_2_code 10 = .ok (.iconst 0, 1) := by decide +kernel
theorem d3_11 : decode prog_15_method_2_code 11 = .ok (.istore_n 2, 1) := by decide +kernel
theorem d3_12 : decode prog_15_method_2_code 12 = .ok (.iload_n 2, 1) := by decide +kernel
theorem d3_13 : decode prog_15_method_2_code 13 = .ok (.aload_n 0, 1) := by decide +kernel
theorem d3_14 : decode prog_15_method_2_code 14 = .ok (.getfield 7, 3) := by decide +kernel
theorem d3_17 : decode prog_15_method_2_code 17 = .ok (.arraylength, 1) := by decide +kernel
theorem d3_18 : decode prog_15_method_2_code 18 = .ok (.if_icmp .ge 57, 3) := by decide +kernel
theorem d3_21 : decode prog_15_method_2_code 21 = .ok (.aload_n 1, 1) := by decide +kernel
theorem d3_22 : decode prog_15_method_2_code 22 = .ok (.iload_n 2, 1) := by decide +kernel
theorem d3_23 : decode prog_15_method_2_code 23 = .ok (.daload, 1) := by decide +kernel
theorem d3_24 : decode prog_15_method_2_code 24 = .ok (.aload_n 0, 1) := by decide +kernel
theorem d3_25 : decode prog_15_method_2_code 25 = .ok (.getfield 7, 3) := by decide +kernel
theorem d3_28 : decode prog_15_method_2_code 28 = .ok (.iload_n 2, 1) := by decide +kernel
theorem d3_29 : decode prog_15_method_2_code 29 = .ok (.daload, 1) := by decide +kernel
theorem d3_30 : decode prog_15_method_2_code 30 = .ok (.dsub, 1) := by decide +kernel
theorem d3_31 : decode prog_15_method_2_code 31 = .ok (.dstore_n 3, 1) := by decide +kernel
theorem d3_32 : decode prog_15_method_2_code 32 = .ok (.aload_n 0, 1) := by decide +kernel
theorem d3_33 : decode prog_15_method_2_code 33 = .ok (.getfield 7, 3) := by decide +kernel
theorem d3_36 : decode prog_15_method_2_code 36 = .ok (.iload_n 2, 1) := by decide +kernel
theorem d3_37 : decode prog_15_method_2_code 37 = .ok (.dup2, 1) := by decide +kernel
theorem d3_38 : decode prog_15_method_2_code 38 = .ok (.daload, 1) := by decide +kernel
theorem d3_39 : decode prog_15_method_2_code 39 = .ok (.dload_n 3, 1) := by decide +kernel
theorem d3_40 : decode prog_15_method_2_code 40 = .ok (.aload_n 0, 1) := by decide +kernel
theorem d3_41 : decode prog_15_method_2_code 41 = .ok (.getfield 16, 3) := by decide +kernel
theorem d3_44 : decode prog_15_method_2_code 44 = .ok (.i2d, 1) := by decide +kernel
theorem d3_45 : decode prog_15_method_2_code 45 = .ok (.ddiv, 1) := by decide +kernel
theorem d3_46 : decode prog_15_method_2_code 46 = .ok (.dadd, 1) := by decide +kernel
theorem d3_47 : decode prog_15_method_2_code 47 = .ok (.dastore, 1) := by decide +kernel
theorem d3_48 : decode prog_15_method_2_code 48 = .ok (.aload_n 0, 1) := by decide +kernel
theorem d3_49 : decode prog_15_method_2_code 49 = .ok (.getfield 13, 3) := by decide +kernel
theorem d3_52 : decode prog_15_method_2_code 52 = .ok (.iload_n 2, 1) := by decide +kernel
theorem d3_53 : decode prog_15_method_2_code 53 = .ok (.dup2, 1) := by decide +kernel
theorem d3_54 : decode prog_15_method_2_code 54 = .ok (.daload, 1) := by decide +kernel
theorem d3_55 : decode prog_15_method_2_code 55 = .ok (.dload_n 3, 1) := by decide +kernel
theorem d3_56 : decode prog_15_method_2_code 56 = .ok (.aload_n 1, 1) := by decide +kernel
theorem d3_57 : decode prog_15_method_2_code 57 = .ok (.iload_n 2, 1) := by decide +kernel
theorem d3_58 : decode prog_15_method_2_code 58 = .ok (.daload, 1) := by decide +kernel
theorem d3_59 : decode prog_15_method_2_code 59 = .ok (.aload_n 0, 1) := by decide +kernel
theorem d3_60 : decode prog_15_method_2_code 60 = .ok (.getfield 7, 3) := by decide +kernel
theorem d3_63 : decode prog_15_method_2_code 63 = .ok (.iload_n 2, 1) := by decide +kernel
theorem d3_64 : decode prog_15_method_2_code 64 = .ok (.daload, 1) := by decide +kernel
theorem d3_65 : decode prog_15_method_2_code 65 = .ok (.dsub, 1) := by decide +kernel
theorem d3_66 : decode prog_15_method_2_code 66 = .ok (.dmul, 1) := by decide +kernel
theorem d3_67 : decode prog_15_method_2_code 67 = .ok (.dadd, 1) := by decide +kernel
theorem d3_68 : decode prog_15_method_2_code 68 = .ok (.dastore, 1) := by decide +kernel
theorem d3_69 : decode prog_15_method_2_code 69 = .ok (.iinc 2 1, 3) := by decide +kernel
theorem d3_72 : decode prog_15_method_2_code 72 = .ok (.goto (-60), 3) := by decide +kernel
theorem d3_75 : decode prog_15_method_2_code 75 = .ok (.return_, 1) := by decide +kernel
set_option maxRecDepth 65536 in
set_option maxHeartbeats 40000000 in
theorem rm_add (l : Launch) (Z : State) (a0 : Array Value) (hw : ∀ d ∈ tables_1, d.before a0 Z = true) (a1 : Addr) (ap : Addr) (am : Addr) (as' : Addr) (km : ClassId) (ks : ClassId) (kp : ClassId) (n : Int32) (n' : Int32) (m0 : UInt64) (m1 : UInt64) (s0 : UInt64) (s1 : UInt64) (x0 : UInt64) (x1 : UInt64) (h0 : Heap) (n0 : Nat) (Z0 : n0 ≤ h0.size) (E1 : Exa Z h0 a1 "com/example/ratewright/ratewright/inference/RunningVariance") (F1 : Fld Z h0 a1 "com/example/ratewright/ratewright/inference/RunningVariance" "mean" "[D" (.ref am)) (F2 : Fld Z h0 a1 "com/example/ratewright/ratewright/inference/RunningVariance" "sumOfSquares" "[D" (.ref as')) (F3 : Fld Z h0 a1 "com/example/ratewright/ratewright/inference/RunningVariance" "count" "I" (.int n)) (R1 : Row Z h0 am .double km [(.double m0), (.double m1)]) (R2 : Row Z h0 as' .double ks [(.double s0), (.double s1)]) (R3 : Row Z h0 ap .double kp [(.double x0), (.double x1)]) (g1 : n0 ≤ a1) (g2 : n0 ≤ am) (g3 : n0 ≤ as') (i1 : am ≠ as') (i2 : am ≠ ap) (i3 : as' ≠ ap) (i4 : a1 ≠ am) (i5 : a1 ≠ as') (i6 : a1 ≠ ap) (hn : own_ok n x0 m0 s0 ∧ own_ok n x1 m1 s1) (hn1 : n + 1 = n') :
    Con l Z (⟨"com/example/ratewright/ratewright/inference/RunningVariance", "add", "([D)V"⟩ : MethodName) prog_15_method_2_code 5 none ({ frames := 0, cells := 0, slots := 0, locals := 0 } : Room) #[(.ref a1), (.ref ap)] h0 (fun vR hR LR => vR = none ∧ Fr n0 LR ∧ Keep h0 hR [a1, am, as'] ∧ Exa Z hR a1 "com/example/ratewright/ratewright/inference/RunningVariance" ∧ Fld Z hR a1 "com/example/ratewright/ratewright/inference/RunningVariance" "mean" "[D" (.ref am) ∧ Fld Z hR a1 "com/example/ratewright/ratewright/inference/RunningVariance" "sumOfSquares" "[D" (.ref as') ∧ Fld Z hR a1 "com/example/ratewright/ratewright/inference/RunningVariance" "count" "I" (.int n') ∧ Row Z hR am .double km [(.double (own_m n x0 m0)), (.double (own_m n x1 m1))] ∧ Row Z hR as' .double ks [(.double (own_s n x0 m0 s0)), (.double (own_s n x1 m1 s1))]) := by
  refine enter (l := l) (Z := Z) (y := (⟨"com/example/ratewright/ratewright/inference/RunningVariance", "add", "([D)V"⟩ : MethodName)) (bytes := prog_15_method_2_code) (maxL := 5) (ret := none) (ws := []) (rm := ({ frames := 0, cells := 0, slots := 0, locals := 0 } : Room)) (as' := #[(.ref a1), (.ref ap)]) (h0 := h0) (Qv := (fun vR hR LR => vR = none ∧ Fr n0 LR ∧ Keep h0 hR [a1, am, as'] ∧ Exa Z hR a1 "com/example/ratewright/ratewright/inference/RunningVariance" ∧ Fld Z hR a1 "com/example/ratewright/ratewright/inference/RunningVariance" "mean" "[D" (.ref am) ∧ Fld Z hR a1 "com/example/ratewright/ratewright/inference/RunningVariance" "sumOfSquares" "[D" (.ref as') ∧ Fld Z hR a1 "com/example/ratewright/ratewright/inference/RunningVariance" "count" "I" (.int n') ∧ Row Z hR am .double km [(.double (own_m n x0 m0)), (.double (own_m n x1 m1))] ∧ Row Z hR as' .double ks [(.double (own_s n x0 m0 s0)), (.double (own_s n x1 m1 s1))])) (kc := 0) (ks := 0) (by first | exact plainFor_of_name (by first | (simp [plainName, overriddenIn]; done) | decide +kernel) | decide +kernel) (Ls := #[.val (.ref a1), .val (.ref ap), .unset, .unset, .unset]) (fun m => by first | (simp [entryFrame, mkF, argsToLocals, Value.category]; done) | rfl) ?_
  intro p e s m below meth c s₁ hx hby hml hown hnm hret hlk hZ X0 e0
  have hown : s.vm.findClass "com/example/ratewright/ratewright/inference/RunningVariance" = some m.cls := hown
  have hml : c.maxLocals = 5 := hml
  have N0 := Fr.nil n0
  refine Go.aloadN X0.here hx (Jvm.hb hby d3_0) rfl rfl (q := 1) rfl ?_
  refine Go.dup X0.here hx (Jvm.hb hby d3_1) rfl (q := 2) rfl ?_
  refine Go.getf X0 hx hZ hown (word hw 20 rfl) e0 F3 (Jvm.hb hby d3_2) (q := 5) rfl ?_
  intro T101 X101 e101
  refine Go.iconst X101.here hx (Jvm.hb hby d3_5) (v := (1 : Int32)) rfl (q := 6) rfl ?_
  obtain ⟨u6, hu6⟩ : ∃ zq, n + (1 : Int32) = zq := ⟨_, rfl⟩
  refine Go.iadd X101.here hx (Jvm.hb hby d3_6) hu6 (q := 7) rfl ?_
  refine Go.putf X101 hx hZ hown (word hw 20 rfl) e101 F3 E1 (Or.inl (word hw 21 rfl)) (word hw 3 rfl) (ty := .int) (by decide) rfl rfl (Jvm.hb hby d3_7) (q := 10) rfl ?_
  intro T102 h102 X102 e102 W102
  have N102 := Fr.snoc X102 N0 g1
  have F102 := F3.same W102
  refine Go.iconst X102.here hx (Jvm.hb hby d3_10) (v := (0 : Int32)) rfl (q := 11) rfl ?_
  refine Go.istoreN X102.here hx (Jvm.hb hby d3_11) (l2 := #[.val (.ref a1), .val (.ref ap), .val (.int (0 : Int32)), .unset, .unset]) rfl (q := 12) rfl ?_
  refine Go.iloadN X102.here hx (Jvm.hb hby d3_12) rfl (q := 13) rfl ?_
  refine Go.aloadN X102.here hx (Jvm.hb hby d3_13) rfl rfl (q := 14) rfl ?_
  have f104 := F1.other W102 (Or.inr (Jvm.RoadKit.slot_ne (Or.inr (word hw 12 rfl)) (Or.inl (word hw 21 rfl)) (by decide) (t := (.array .double)) (t' := .int) (by decide) (by decide)))
  refine Go.getf X102 hx hZ hown (word hw 11 rfl) e102 f104 (Jvm.hb hby d3_14) (q := 17) rfl ?_
  intro T103 X103 e103
  have f105 := R1.other W102 (Ne.symm i4)
  refine Go.alen X103 hx hZ e103 f105 (Jvm.hb hby d3_17) (n := (2 : Int32)) (by first | rfl | decide) (q := 18) rfl ?_
  have hc18_107 : (0 : Int32) < (2 : Int32) := by decide
  refine Go.icmpN X103.here hx (Jvm.hb hby d3_18) (tlt hc18_107).2.1 (q := 21) rfl ?_
  refine Go.aloadN X103.here hx (Jvm.hb hby d3_21) rfl rfl (q := 22) rfl ?_
  refine Go.iloadN X103.here hx (Jvm.hb hby d3_22) rfl (q := 23) rfl ?_
  have f108 := R3.other W102 (Ne.symm i6)
  refine Go.daload X103 hx hZ e103 f108 (Jvm.hb hby d3_23) (i := 0) (by decide) (by decide) rfl (q := 24) rfl ?_
  refine Go.aloadN X103.here hx (Jvm.hb hby d3_24) rfl rfl (q := 25) rfl ?_
  refine Go.getf X103 hx hZ hown (word hw 11 rfl) e103 f104 (Jvm.hb hby d3_25) (q := 28) rfl ?_
  intro T109 X109 e109
  refine Go.iloadN X109.here hx (Jvm.hb hby d3_28) rfl (q := 29) rfl ?_
  refine Go.daload X109 hx hZ e109 f105 (Jvm.hb hby d3_29) (i := 0) (by decide) (by decide) rfl (q := 30) rfl ?_
  obtain ⟨u30, hu30⟩ : ∃ zq, FP.dsub x0 m0 = zq := ⟨_, rfl⟩
  refine Go.dsub X109.here hx (Jvm.hb hby d3_30) (by subst_vars; first | exact hn.1.1 | exact hn.2.1) hu30 (q := 31) rfl ?_
  refine Go.dstoreN X109.here hx (Jvm.hb hby d3_31) (l2 := #[.val (.ref a1), .val (.ref ap), .val (.int (0 : Int32)), .val (.double u30), .second]) rfl (q := 32) rfl ?_
  refine Go.aloadN X109.here hx (Jvm.hb hby d3_32) rfl rfl (q := 33) rfl ?_
  refine Go.getf X109 hx hZ hown (word hw 11 rfl) e109 f104 (Jvm.hb hby d3_33) (q := 36) rfl ?_
  intro T110 X110 e110
  refine Go.iloadN X110.here hx (Jvm.hb hby d3_36) rfl (q := 37) rfl ?_
  refine Go.dup2 X110.here hx (Jvm.hb hby d3_37) rfl rfl (q := 38) rfl ?_
  refine Go.daload X110 hx hZ e110 f105 (Jvm.hb hby d3_38) (i := 0) (by decide) (by decide) rfl (q := 39) rfl ?_
  refine Go.dloadN X110.here hx (Jvm.hb hby d3_39) rfl (q := 40) rfl ?_
  refine Go.aloadN X110.here hx (Jvm.hb hby d3_40) rfl rfl (q := 41) rfl ?_
  refine Go.getf X110 hx hZ hown (word hw 20 rfl) e110 F102 (Jvm.hb hby d3_41) (q := 44) rfl ?_
  intro T111 X111 e111
  obtain ⟨u44, hu44⟩ : ∃ zq, FP.i2d u6 = zq := ⟨_, rfl⟩
  refine Go.i2d X111.here hx (Jvm.hb hby d3_44) hu44 (q := 45) rfl ?_
  obtain ⟨u45, hu45⟩ : ∃ zq, FP.ddiv u30 u44 = zq := ⟨_, rfl⟩
  refine Go.ddiv X111.here hx (Jvm.hb hby d3_45) (by subst_vars; first | exact hn.1.2.1 | exact hn.2.2.1) hu45 (q := 46) rfl ?_
  obtain ⟨u46, hu46⟩ : ∃ zq, FP.dadd m0 u45 = zq := ⟨_, rfl⟩
  refine Go.dadd X111.here hx (Jvm.hb hby d3_46) (by subst_vars; first | exact hn.1.2.2.1 | exact hn.2.2.2.1) hu46 (q := 47) rfl ?_
  refine Go.dastore X111 hx hZ e111 f105 (Jvm.hb hby d3_47) (i := 0) (by decide) (by decide) rfl (q := 48) rfl ?_
  intro T112 h112 X112 e112 W112 R112
  have N112 := Fr.snoc X112 N102 g2
  have R112 : Row Z h112 am .double km [(.double u46), (.double m1)] := R112
  refine Go.aloadN X112.here hx (Jvm.hb hby d3_48) rfl rfl (q := 49) rfl ?_
  have f114 := F2.other W102 (Or.inr (Jvm.RoadKit.slot_ne (Or.inr (word hw 14 rfl)) (Or.inl (word hw 21 rfl)) (by decide) (t := (.array .double)) (t' := .int) (by decide) (by decide)))
  have f115 := f114.other W112 (Or.inl i4)
  refine Go.getf X112 hx hZ hown (word hw 13 rfl) e112 f115 (Jvm.hb hby d3_49) (q := 52) rfl ?_
  intro T113 X113 e113
  refine Go.iloadN X113.here hx (Jvm.hb hby d3_52) rfl (q := 53) rfl ?_
  refine Go.dup2 X113.here hx (Jvm.hb hby d3_53) rfl rfl (q := 54) rfl ?_
  have f116 := R2.other W102 (Ne.symm i5)
  have f117 := f116.other W112 (Ne.symm i1)
  refine Go.daload X113 hx hZ e113 f117 (Jvm.hb hby d3_54) (i := 0) (by decide) (by decide) rfl (q := 55) rfl ?_
  refine Go.dloadN X113.here hx (Jvm.hb hby d3_55) rfl (q := 56) rfl ?_
  refine Go.aloadN X113.here hx (Jvm.hb hby d3_56) rfl rfl (q := 57) rfl ?_
  refine Go.iloadN X113.here hx (Jvm.hb hby d3_57) rfl (q := 58) rfl ?_
  have f118 := f108.other W112 (Ne.symm i2)
  refine Go.daload X113 hx hZ e113 f118 (Jvm.hb hby d3_58) (i := 0) (by decide) (by decide) rfl (q := 59) rfl ?_
  refine Go.aloadN X113.here hx (Jvm.hb hby d3_59) rfl rfl (q := 60) rfl ?_
  have f120 := f104.other W112 (Or.inl i4)
  refine Go.getf X113 hx hZ hown (word hw 11 rfl) e113 f120 (Jvm.hb hby d3_60) (q := 63) rfl ?_
  intro T119 X119 e119
  refine Go.iloadN X119.here hx (Jvm.hb hby d3_63) rfl (q := 64) rfl ?_
  refine Go.daload X119 hx hZ e119 R112 (Jvm.hb hby d3_64) (i := 0) (by decide) (by decide) rfl (q := 65) rfl ?_
  obtain ⟨u65, hu65⟩ : ∃ zq, FP.dsub x0 u46 = zq := ⟨_, rfl⟩
  refine Go.dsub X119.here hx (Jvm.hb hby d3_65) (by subst_vars; first | exact hn.1.2.2.2.1 | exact hn.2.2.2.2.1) hu65 (q := 66) rfl ?_
  obtain ⟨u66, hu66⟩ : ∃ zq, FP.dmul u30 u65 = zq := ⟨_, rfl⟩
  refine Go.dmul X119.here hx (Jvm.hb hby d3_66) (by subst_vars; first | exact hn.1.2.2.2.2.1 | exact hn.2.2.2.2.2.1) hu66 (q := 67) rfl ?_
  obtain ⟨u67, hu67⟩ : ∃ zq, FP.dadd s0 u66 = zq := ⟨_, rfl⟩
  refine Go.dadd X119.here hx (Jvm.hb hby d3_67) (by subst_vars; first | exact hn.1.2.2.2.2.2 | exact hn.2.2.2.2.2.2) hu67 (q := 68) rfl ?_
  refine Go.dastore X119 hx hZ e119 f117 (Jvm.hb hby d3_68) (i := 0) (by decide) (by decide) rfl (q := 69) rfl ?_
  intro T121 h121 X121 e121 W121 R121
  have N121 := Fr.snoc X121 N112 g3
  have R121 : Row Z h121 as' .double ks [(.double u67), (.double s1)] := R121
  refine Go.iinc X121.here hx (Jvm.hb hby d3_69) rfl (v := (1 : Int32)) (by decide) (l2 := #[.val (.ref a1), .val (.ref ap), .val (.int (1 : Int32)), .val (.double u30), .second]) rfl (q := 72) rfl ?_
  refine Go.goto X121.here hx (Jvm.hb hby d3_72) (by decide) (q := 12) rfl ?_
  refine Go.iloadN X121.here hx (Jvm.hb hby d3_12) rfl (q := 13) rfl ?_
  refine Go.aloadN X121.here hx (Jvm.hb hby d3_13) rfl rfl (q := 14) rfl ?_
  have f123 := f120.other W121 (Or.inl i5)
  refine Go.getf X121 hx hZ hown (word hw 11 rfl) e121 f123 (Jvm.hb hby d3_14) (q := 17) rfl ?_
  intro T122 X122 e122
  have f124 := R112.other W121 i1
  refine Go.alen X122 hx hZ e122 f124 (Jvm.hb hby d3_17) (n := (2 : Int32)) (by first | rfl | decide) (q := 18) rfl ?_
  have hc18_126 : (1 : Int32) < (2 : Int32) := by decide
  refine Go.icmpN X122.here hx (Jvm.hb hby d3_18) (tlt hc18_126).2.1 (q := 21) rfl ?_
  refine Go.aloadN X122.here hx (Jvm.hb hby d3_21) rfl rfl (q := 22) rfl ?_
  refine Go.iloadN X122.here hx (Jvm.hb hby d3_22) rfl (q := 23) rfl ?_
  have f127 := f118.other W121 (Ne.symm i3)
  refine Go.daload X122 hx hZ e122 f127 (Jvm.hb hby d3_23) (i := 1) (by decide) (by decide) rfl (q := 24) rfl ?_
  refine Go.aloadN X122.here hx (Jvm.hb hby d3_24) rfl rfl (q := 25) rfl ?_
  refine Go.getf X122 hx hZ hown (word hw 11 rfl) e122 f123 (Jvm.hb hby d3_25) (q := 28) rfl ?_
  intro T128 X128 e128
  refine Go.iloadN X128.here hx (Jvm.hb hby d3_28) rfl (q := 29) rfl ?_
  refine Go.daload X128 hx hZ e128 f124 (Jvm.hb hby d3_29) (i := 1) (by decide) (by decide) rfl (q := 30) rfl ?_
  obtain ⟨u30_1, hu30_1⟩ : ∃ zq, FP.dsub x1 m1 = zq := ⟨_, rfl⟩
  refine Go.dsub X128.here hx (Jvm.hb hby d3_30) (by subst_vars; first | exact hn.1.1 | exact hn.2.1) hu30_1 (q := 31) rfl ?_
  refine Go.dstoreN X128.here hx (Jvm.hb hby d3_31) (l2 := #[.val (.ref a1), .val (.ref ap), .val (.int (1 : Int32)), .val (.double u30_1), .second]) rfl (q := 32) rfl ?_
  refine Go.aloadN X128.here hx (Jvm.hb hby d3_32) rfl rfl (q := 33) rfl ?_
  refine Go.getf X128 hx hZ hown (word hw 11 rfl) e128 f123 (Jvm.hb hby d3_33) (q := 36) rfl ?_
  intro T129 X129 e129
  refine Go.iloadN X129.here hx (Jvm.hb hby d3_36) rfl (q := 37) rfl ?_
  refine Go.dup2 X129.here hx (Jvm.hb hby d3_37) rfl rfl (q := 38) rfl ?_
  refine Go.daload X129 hx hZ e129 f124 (Jvm.hb hby d3_38) (i := 1) (by decide) (by decide) rfl (q := 39) rfl ?_
  refine Go.dloadN X129.here hx (Jvm.hb hby d3_39) rfl (q := 40) rfl ?_
  refine Go.aloadN X129.here hx (Jvm.hb hby d3_40) rfl rfl (q := 41) rfl ?_
  have f131 := F102.other W112 (Or.inl i4)
  have f132 := f131.other W121 (Or.inl i5)
  refine Go.getf X129 hx hZ hown (word hw 20 rfl) e129 f132 (Jvm.hb hby d3_41) (q := 44) rfl ?_
  intro T130 X130 e130
  obtain ⟨u44_1, hu44_1⟩ : ∃ zq, FP.i2d u6 = zq := ⟨_, rfl⟩
  refine Go.i2d X130.here hx (Jvm.hb hby d3_44) hu44_1 (q := 45) rfl ?_
  obtain ⟨u45_1, hu45_1⟩ : ∃ zq, FP.ddiv u30_1 u44_1 = zq := ⟨_, rfl⟩
  refine Go.ddiv X130.here hx (Jvm.hb hby d3_45) (by subst_vars; first | exact hn.1.2.1 | exact hn.2.2.1) hu45_1 (q := 46) rfl ?_
  obtain ⟨u46_1, hu46_1⟩ : ∃ zq, FP.dadd m1 u45_1 = zq := ⟨_, rfl⟩
  refine Go.dadd X130.here hx (Jvm.hb hby d3_46) (by subst_vars; first | exact hn.1.2.2.1 | exact hn.2.2.2.1) hu46_1 (q := 47) rfl ?_
  refine Go.dastore X130 hx hZ e130 f124 (Jvm.hb hby d3_47) (i := 1) (by decide) (by decide) rfl (q := 48) rfl ?_
  intro T133 h133 X133 e133 W133 R133
  have N133 := Fr.snoc X133 N121 g2
  have R133 : Row Z h133 am .double km [(.double u46), (.double u46_1)] := R133
  refine Go.aloadN X133.here hx (Jvm.hb hby d3_48) rfl rfl (q := 49) rfl ?_
  have f135 := f115.other W121 (Or.inl i5)
  have f136 := f135.other W133 (Or.inl i4)
  refine Go.getf X133 hx hZ hown (word hw 13 rfl) e133 f136 (Jvm.hb hby d3_49) (q := 52) rfl ?_
  intro T134 X134 e134
  refine Go.iloadN X134.here hx (Jvm.hb hby d3_52) rfl (q := 53) rfl ?_
  refine Go.dup2 X134.here hx (Jvm.hb hby d3_53) rfl rfl (q := 54) rfl ?_
  have f137 := R121.other W133 (Ne.symm i1)
  refine Go.daload X134 hx hZ e134 f137 (Jvm.hb hby d3_54) (i := 1) (by decide) (by decide) rfl (q := 55) rfl ?_
  refine Go.dloadN X134.here hx (Jvm.hb hby d3_55) rfl (q := 56) rfl ?_
  refine Go.aloadN X134.here hx (Jvm.hb hby d3_56) rfl rfl (q := 57) rfl ?_
  refine Go.iloadN X134.here hx (Jvm.hb hby d3_57) rfl (q := 58) rfl ?_
  have f138 := f127.other W133 (Ne.symm i2)
  refine Go.daload X134 hx hZ e134 f138 (Jvm.hb hby d3_58) (i := 1) (by decide) (by decide) rfl (q := 59) rfl ?_
  refine Go.aloadN X134.here hx (Jvm.hb hby d3_59) rfl rfl (q := 60) rfl ?_
  have f140 := f123.other W133 (Or.inl i4)
  refine Go.getf X134 hx hZ hown (word hw 11 rfl) e134 f140 (Jvm.hb hby d3_60) (q := 63) rfl ?_
  intro T139 X139 e139
  refine Go.iloadN X139.here hx (Jvm.hb hby d3_63) rfl (q := 64) rfl ?_
  refine Go.daload X139 hx hZ e139 R133 (Jvm.hb hby d3_64) (i := 1) (by decide) (by decide) rfl (q := 65) rfl ?_
  obtain ⟨u65_1, hu65_1⟩ : ∃ zq, FP.dsub x1 u46_1 = zq := ⟨_, rfl⟩
  refine Go.dsub X139.here hx (Jvm.hb hby d3_65) (by subst_vars; first | exact hn.1.2.2.2.1 | exact hn.2.2.2.2.1) hu65_1 (q := 66) rfl ?_
  obtain ⟨u66_1, hu66_1⟩ : ∃ zq, FP.dmul u30_1 u65_1 = zq := ⟨_, rfl⟩
  refine Go.dmul X139.here hx (Jvm.hb hby d3_66) (by subst_vars; first | exact hn.1.2.2.2.2.1 | exact hn.2.2.2.2.2.1) hu66_1 (q := 67) rfl ?_
  obtain ⟨u67_1, hu67_1⟩ : ∃ zq, FP.dadd s1 u66_1 = zq := ⟨_, rfl⟩
  refine Go.dadd X139.here hx (Jvm.hb hby d3_67) (by subst_vars; first | exact hn.1.2.2.2.2.2 | exact hn.2.2.2.2.2.2) hu67_1 (q := 68) rfl ?_
  refine Go.dastore X139 hx hZ e139 f137 (Jvm.hb hby d3_68) (i := 1) (by decide) (by decide) rfl (q := 69) rfl ?_
  intro T141 h141 X141 e141 W141 R141
  have N141 := Fr.snoc X141 N133 g3
  have R141 : Row Z h141 as' .double ks [(.double u67), (.double u67_1)] := R141
  refine Go.iinc X141.here hx (Jvm.hb hby d3_69) rfl (v := (2 : Int32)) (by decide) (l2 := #[.val (.ref a1), .val (.ref ap), .val (.int (2 : Int32)), .val (.double u30_1), .second]) rfl (q := 72) rfl ?_
  refine Go.goto X141.here hx (Jvm.hb hby d3_72) (by decide) (q := 12) rfl ?_
  refine Go.iloadN X141.here hx (Jvm.hb hby d3_12) rfl (q := 13) rfl ?_
  refine Go.aloadN X141.here hx (Jvm.hb hby d3_13) rfl rfl (q := 14) rfl ?_
  have f143 := f140.other W141 (Or.inl i5)
  refine Go.getf X141 hx hZ hown (word hw 11 rfl) e141 f143 (Jvm.hb hby d3_14) (q := 17) rfl ?_
  intro T142 X142 e142
  have f144 := R133.other W141 i1
  refine Go.alen X142 hx hZ e142 f144 (Jvm.hb hby d3_17) (n := (2 : Int32)) (by first | rfl | decide) (q := 18) rfl ?_
  have hc18_146 : ¬ ((2 : Int32) < (2 : Int32)) := by decide
  refine Go.icmpY X142.here hx (Jvm.hb hby d3_18) (flt hc18_146).2.1 (by decide) (q := 75) rfl ?_
  subst hu6 hu30 hu44 hu45 hu46 hu65 hu66 hu67 hu30_1 hu44_1 hu45_1 hu46_1 hu65_1 hu66_1 hu67_1
  subst hn1
  have k147 : Keep h0 h102 [a1, am, as'] := (Keep.refl h0 [a1, am, as']).wr W102 (Or.inl (List.mem_of_getElem? (i := 0) rfl))
  have k148 : Keep h0 h112 [a1, am, as'] := k147.wr W112 (Or.inl (List.mem_of_getElem? (i := 1) rfl))
  have k149 : Keep h0 h121 [a1, am, as'] := k148.wr W121 (Or.inl (List.mem_of_getElem? (i := 2) rfl))
  have k150 : Keep h0 h133 [a1, am, as'] := k149.wr W133 (Or.inl (List.mem_of_getElem? (i := 1) rfl))
  have k151 : Keep h0 h141 [a1, am, as'] := k150.wr W141 (Or.inl (List.mem_of_getElem? (i := 2) rfl))
  have f152 := E1.wr W102
  have f153 := f152.wr W112
  have f154 := f153.wr W121
  have f155 := f154.wr W133
  have f156 := f155.wr W141
  have f157 := f136.other W141 (Or.inl i5)
  have f158 := f132.other W133 (Or.inl i4)
  have f159 := f158.other W141 (Or.inl i5)
  refine Go.retV X142 hx hret hlk (Jvm.hb hby d3_75) (by decide) (by decide) ?_
  rw [e142]
  exact ⟨rfl, N141, k151, f156, f143, f157, f159, f144, R141⟩
theorem d4_0 : decode prog_15_method_3_code 0 = .ok (.aload_n 0, 1) := by decide +kernel
theorem d4_1 : decode prog_15_method_3_code 1 = .ok (.getfield 16, 3) := by decide +kernel
theorem d4_4 : decode prog_15_method_3_code 4 = .ok (.ireturn, 1) := by decide +kernel
set_option maxRecDepth 65536 in
set_option maxHeartbeats 40000000 in
theorem rm_count (l : Launch) (Z : State) (a0 : Array Value) (hw : ∀ d ∈ tables_1, d.before a0 Z = true) (a1 : Addr) (n : Int32) (h0 : Heap) (n0 : Nat) (Z0 : n0 ≤ h0.size) (F3 : Fld Z h0 a1 "com/example/ratewright/ratewright/inference/RunningVariance" "count" "I" (.int n)) :
    Con l Z (⟨"com/example/ratewright/ratewright/inference/RunningVariance", "count", "()I"⟩ : MethodName) prog_15_method_3_code 1 (some .int) ({ frames := 0, cells := 0, slots := 0, locals := 0 } : Room) #[(.ref a1)] h0 (fun vR hR LR => vR = some (.int n) ∧ Fr n0 LR ∧ hR = h0) := by
  refine enter (l := l) (Z := Z) (y := (⟨"com/example/ratewright/ratewright/inference/RunningVariance", "count", "()I"⟩ : MethodName)) (bytes := prog_15_method_3_code) (maxL := 1) (ret := (some .int)) (ws := []) (rm := ({ frames := 0, cells := 0, slots := 0, locals := 0 } : Room)) (as' := #[(.ref a1)]) (h0 := h0) (Qv := (fun vR hR LR => vR = some (.int n) ∧ Fr n0 LR ∧ hR = h0)) (kc := 0) (ks := 0) (by first | exact plainFor_of_name (by first | (simp [plainName, overriddenIn]; done) | decide +kernel) | decide +kernel) (Ls := #[.val (.ref a1)]) (fun m => by first | (simp [entryFrame, mkF, argsToLocals, Value.category]; done) | rfl) ?_
  intro p e s m below meth c s₁ hx hby hml hown hnm hret hlk hZ X0 e0
  have hown : s.vm.findClass "com/example/ratewright/ratewright/inference/RunningVariance" = some m.cls := hown
  have hml : c.maxLocals = 1 := hml
  have N0 := Fr.nil n0
  refine Go.aloadN X0.here hx (Jvm.hb hby d4_0) rfl rfl (q := 1) rfl ?_
  refine Go.getf X0 hx hZ hown (word hw 20 rfl) e0 F3 (Jvm.hb hby d4_1) (q := 4) rfl ?_
  intro T101 X101 e101
  refine Go.retI X101 hx hret hlk (Jvm.hb hby d4_4) (by decide) (by decide) ?_
  exact ⟨rfl, N0, e101⟩
theorem d5_0 : decode prog_15_method_4_code 0 = .ok (.aload_n 0, 1) := by decide +kernel
theorem d5_1 : decode prog_15_method_4_code 1 = .ok (.getfield 16, 3) := by decide +kernel
theorem d5_4 : decode prog_15_method_4_code 4 = .ok (.iconst 2, 1) := by decide +kernel
theorem d5_5 : decode prog_15_method_4_code 5 = .ok (.if_icmp .ge 20, 3) := by decide +kernel
theorem d5_8 : decode prog_15_method_4_code 8 = .ok (.new 20, 3) := by decide +kernel
theorem d5_11 : decode prog_15_method_4_code 11 = .ok (.dup, 1) := by decide +kernel
theorem d5_12 : decode prog_15_method_4_code 12 = .ok (.aload_n 0, 1) := by decide +kernel
theorem d5_13 : decode prog_15_method_4_code 13 = .ok (.getfield 16, 3) := by decide +kernel
theorem d5_16 : decode prog_15_method_4_code 16 = .ok (.invokedynamic 22, 5) := by decide +kernel
theorem d5_21 : decode prog_15_method_4_code 21 = .ok (.invokespecial 26, 3) := by decide +kernel
theorem d5_24 : decode prog_15_method_4_code 24 = .ok (.athrow, 1) := by decide +kernel
theorem d5_25 : decode prog_15_method_4_code 25 = .ok (.aload_n 0, 1) := by decide +kernel
theorem d5_26 : decode prog_15_method_4_code 26 = .ok (.getfield 7, 3) := by decide +kernel
theorem d5_29 : decode prog_15_method_4_code 29 = .ok (.arraylength, 1) := by decide +kernel
theorem d5_30 : decode prog_15_method_4_code 30 = .ok (.newarray .double, 2) := by decide +kernel
theorem d5_32 : decode prog_15_method_4_code 32 = .ok (.astore_n 1, 1) := by decide +kernel
theorem d5_33 : decode prog_15_method_4_code 33 = .ok (.iconst 0, 1) := by decide +kernel
theorem d5_34 : decode prog_15_method_4_code 34 = .ok (.istore_n 2, 1) := by decide +kernel
theorem d5_35 : decode prog_15_method_4_code 35 = .ok (.iload_n 2, 1) := by decide +kernel
theorem d5_36 : decode prog_15_method_4_code 36 = .ok (.aload_n 1, 1) := by decide +kernel
theorem d5_37 : decode prog_15_method_4_code 37 = .ok (.arraylength, 1) := by decide +kernel
theorem d5_38 : decode prog_15_method_4_code 38 = .ok (.if_icmp .ge 26, 3) := by decide +kernel
theorem d5_41 : decode prog_15_method_4_code 41 = .ok (.aload_n 1, 1) := by decide +kernel
theorem d5_42 : decode prog_15_method_4_code 42 = .ok (.iload_n 2, 1) := by decide +kernel
theorem d5_43 : decode prog_15_method_4_code 43 = .ok (.aload_n 0, 1) := by decide +kernel
theorem d5_44 : decode prog_15_method_4_code 44 = .ok (.getfield 13, 3) := by decide +kernel
theorem d5_47 : decode prog_15_method_4_code 47 = .ok (.iload_n 2, 1) := by decide +kernel
theorem d5_48 : decode prog_15_method_4_code 48 = .ok (.daload, 1) := by decide +kernel
theorem d5_49 : decode prog_15_method_4_code 49 = .ok (.aload_n 0, 1) := by decide +kernel
theorem d5_50 : decode prog_15_method_4_code 50 = .ok (.getfield 16, 3) := by decide +kernel
theorem d5_53 : decode prog_15_method_4_code 53 = .ok (.iconst 1, 1) := by decide +kernel
theorem d5_54 : decode prog_15_method_4_code 54 = .ok (.isub, 1) := by decide +kernel
theorem d5_55 : decode prog_15_method_4_code 55 = .ok (.i2d, 1) := by decide +kernel
theorem d5_56 : decode prog_15_method_4_code 56 = .ok (.ddiv, 1) := by decide +kernel
theorem d5_57 : decode prog_15_method_4_code 57 = .ok (.dastore, 1) := by decide +kernel
theorem d5_58 : decode prog_15_method_4_code 58 = .ok (.iinc 2 1, 3) := by decide +kernel
theorem d5_61 : decode prog_15_method_4_code 61 = .ok (.goto (-26), 3) := by decide +kernel
theorem d5_64 : decode prog_15_method_4_code 64 = .ok (.aload_n 1, 1) := by decide +kernel
theorem d5_65 : decode prog_15_method_4_code 65 = .ok (.areturn, 1) := by decide +kernel
set_option maxRecDepth 65536 in
set_option maxHeartbeats 40000000 in
theorem rm_var (l : Launch) (Z : State) (a0 : Array Value) (hw : ∀ d ∈ tables_1, d.before a0 Z = true) (a1 : Addr) (am : Addr) (as' : Addr) (km : ClassId) (ks : ClassId) (n : Int32) (m0 : UInt64) (m1 : UInt64) (s0 : UInt64) (s1 : UInt64) (h0 : Heap) (n0 : Nat) (Z0 : n0 ≤ h0.size) (F1 : Fld Z h0 a1 "com/example/ratewright/ratewright/inference/RunningVariance" "mean" "[D" (.ref am)) (F2 : Fld Z h0 a1 "com/example/ratewright/ratewright/inference/RunningVariance" "sumOfSquares" "[D" (.ref as')) (F3 : Fld Z h0 a1 "com/example/ratewright/ratewright/inference/RunningVariance" "count" "I" (.int n)) (R1 : Row Z h0 am .double km [(.double m0), (.double m1)]) (R2 : Row Z h0 as' .double ks [(.double s0), (.double s1)]) (h2 : ¬ n < 2) (hn : Jvm.Free.Fl.NoNaN64 (FP.ddiv s0 (FP.i2d (n - 1))) ∧ Jvm.Free.Fl.NoNaN64 (FP.ddiv s1 (FP.i2d (n - 1)))) :
    Con l Z (⟨"com/example/ratewright/ratewright/inference/RunningVariance", "variances", "()[D"⟩ : MethodName) prog_15_method_4_code 3 (some (.array .double)) ({ frames := 0, cells := 1, slots := 2, locals := 0 } : Room) #[(.ref a1)] h0 (fun vR hR LR => ∃ (b : Addr) (kb : ClassId), vR = some (.ref b) ∧ Fr n0 LR ∧ Keep h0 hR [] ∧ h0.size ≤ b ∧ Row Z hR b .double kb [(.double (FP.ddiv s0 (FP.i2d (n - 1)))), (.double (FP.ddiv s1 (FP.i2d (n - 1))))]) := by
  refine enter (l := l) (Z := Z) (y := (⟨"com/example/ratewright/ratewright/inference/RunningVariance", "variances", "()[D"⟩ : MethodName)) (bytes := prog_15_method_4_code) (maxL := 3) (ret := (some (.array .double))) (ws := []) (rm := ({ frames := 0, cells := 1, slots := 2, locals := 0 } : Room)) (as' := #[(.ref a1)]) (h0 := h0) (Qv := (fun vR hR LR => ∃ (b : Addr) (kb : ClassId), vR = some (.ref b) ∧ Fr n0 LR ∧ Keep h0 hR [] ∧ h0.size ≤ b ∧ Row Z hR b .double kb [(.double (FP.ddiv s0 (FP.i2d (n - 1)))), (.double (FP.ddiv s1 (FP.i2d (n - 1))))])) (kc := 1) (ks := 2) (by first | exact plainFor_of_name (by first | (simp [plainName, overriddenIn]; done) | decide +kernel) | decide +kernel) (Ls := #[.val (.ref a1), .unset, .unset]) (fun m => by first | (simp [entryFrame, mkF, argsToLocals, Value.category]; done) | rfl) ?_
  intro p e s m below meth c s₁ hx hby hml hown hnm hret hlk hZ X0 e0
  have hown : s.vm.findClass "com/example/ratewright/ratewright/inference/RunningVariance" = some m.cls := hown
  have hml : c.maxLocals = 3 := hml
  have N0 := Fr.nil n0
  refine Go.aloadN X0.here hx (Jvm.hb hby d5_0) rfl rfl (q := 1) rfl ?_
  refine Go.getf X0 hx hZ hown (word hw 20 rfl) e0 F3 (Jvm.hb hby d5_1) (q := 4) rfl ?_
  intro T101 X101 e101
  refine Go.iconst X101.here hx (Jvm.hb hby d5_4) (v := (2 : Int32)) rfl (q := 5) rfl ?_
  have hc5 : ¬ (n < (2 : Int32)) := h2
  refine Go.icmpY X101.here hx (Jvm.hb hby d5_5) (flt hc5).2.1 (by decide) (q := 25) rfl ?_
  refine Go.aloadN X101.here hx (Jvm.hb hby d5_25) rfl rfl (q := 26) rfl ?_
  refine Go.getf X101 hx hZ hown (word hw 11 rfl) e101 F1 (Jvm.hb hby d5_26) (q := 29) rfl ?_
  intro T103 X103 e103
  refine Go.alen X103 hx hZ e103 R1 (Jvm.hb hby d5_29) (n := (2 : Int32)) (by first | rfl | decide) (q := 30) rfl ?_
  refine Go.newarr X103 hx hZ (aty := .double) (word hw 1 rfl) e103 (Jvm.hb hby d5_30) (by decide) (k := 2) (by decide) (by decide) (by decide) (by decide) (ad := "[D") (by decide) (q := 32) rfl ?_
  intro T104 h104 a104 kk104 g104 X104 e104 E104 R104 A104
  have r105 : n0 ≤ a104 := Nat.le_trans Z0 (Nat.le_of_eq g104.symm)
  have y105 : h0.size ≤ a104 := Nat.le_trans (Keep.refl h0 []).1 (Nat.le_of_eq g104.symm)
  have R104 : Row Z h104 a104 .double kk104 [(.double (0 : UInt64)), (.double (0 : UInt64))] := R104
  refine Go.astoreN X104.here hx (Jvm.hb hby d5_32) rfl (l2 := #[.val (.ref a1), .val (.ref a104), .unset]) rfl (q := 33) rfl ?_
  refine Go.iconst X104.here hx (Jvm.hb hby d5_33) (v := (0 : Int32)) rfl (q := 34) rfl ?_
  refine Go.istoreN X104.here hx (Jvm.hb hby d5_34) (l2 := #[.val (.ref a1), .val (.ref a104), .val (.int (0 : Int32))]) rfl (q := 35) rfl ?_
  refine Go.iloadN X104.here hx (Jvm.hb hby d5_35) rfl (q := 36) rfl ?_
  refine Go.aloadN X104.here hx (Jvm.hb hby d5_36) rfl rfl (q := 37) rfl ?_
  refine Go.alen X104 hx hZ e104 R104 (Jvm.hb hby d5_37) (n := (2 : Int32)) (by first | rfl | decide) (q := 38) rfl ?_
  have hc38_107 : (0 : Int32) < (2 : Int32) := by decide
  refine Go.icmpN X104.here hx (Jvm.hb hby d5_38) (tlt hc38_107).2.1 (q := 41) rfl ?_
  refine Go.aloadN X104.here hx (Jvm.hb hby d5_41) rfl rfl (q := 42) rfl ?_
  refine Go.iloadN X104.here hx (Jvm.hb hby d5_42) rfl (q := 43) rfl ?_
  refine Go.aloadN X104.here hx (Jvm.hb hby d5_43) rfl rfl (q := 44) rfl ?_
  have f109 := F2.ext E104
  refine Go.getf X104 hx hZ hown (word hw 13 rfl) e104 f109 (Jvm.hb hby d5_44) (q := 47) rfl ?_
  intro T108 X108 e108
  refine Go.iloadN X108.here hx (Jvm.hb hby d5_47) rfl (q := 48) rfl ?_
  have f110 := R2.ext E104
  refine Go.daload X108 hx hZ e108 f110 (Jvm.hb hby d5_48) (i := 0) (by decide) (by decide) rfl (q := 49) rfl ?_
  refine Go.aloadN X108.here hx (Jvm.hb hby d5_49) rfl rfl (q := 50) rfl ?_
  have f112 := F3.ext E104
  refine Go.getf X108 hx hZ hown (word hw 20 rfl) e108 f112 (Jvm.hb hby d5_50) (q := 53) rfl ?_
  intro T111 X111 e111
  refine Go.iconst X111.here hx (Jvm.hb hby d5_53) (v := (1 : Int32)) rfl (q := 54) rfl ?_
  obtain ⟨u54, hu54⟩ : ∃ zq, n - (1 : Int32) = zq := ⟨_, rfl⟩
  refine Go.isub X111.here hx (Jvm.hb hby d5_54) hu54 (q := 55) rfl ?_
  obtain ⟨u55, hu55⟩ : ∃ zq, FP.i2d u54 = zq := ⟨_, rfl⟩
  refine Go.i2d X111.here hx (Jvm.hb hby d5_55) hu55 (q := 56) rfl ?_
  obtain ⟨u56, hu56⟩ : ∃ zq, FP.ddiv s0 u55 = zq := ⟨_, rfl⟩
  refine Go.ddiv X111.here hx (Jvm.hb hby d5_56) (by subst_vars; first | exact hn.1 | exact hn.2) hu56 (q := 57) rfl ?_
  refine Go.dastore X111 hx hZ e111 R104 (Jvm.hb hby d5_57) (i := 0) (by decide) (by decide) rfl (q := 58) rfl ?_
  intro T113 h113 X113 e113 W113 R113
  have N113 := Fr.snoc X113 N0 r105
  have R113 : Row Z h113 a104 .double kk104 [(.double u56), (.double (0 : UInt64))] := R113
  refine Go.iinc X113.here hx (Jvm.hb hby d5_58) rfl (v := (1 : Int32)) (by decide) (l2 := #[.val (.ref a1), .val (.ref a104), .val (.int (1 : Int32))]) rfl (q := 61) rfl ?_
  refine Go.goto X113.here hx (Jvm.hb hby d5_61) (by decide) (q := 35) rfl ?_
  refine Go.iloadN X113.here hx (Jvm.hb hby d5_35) rfl (q := 36) rfl ?_
  refine Go.aloadN X113.here hx (Jvm.hb hby d5_36) rfl rfl (q := 37) rfl ?_
  refine Go.alen X113 hx hZ e113 R113 (Jvm.hb hby d5_37) (n := (2 : Int32)) (by first | rfl | decide) (q := 38) rfl ?_
  have hc38_115 : (1 : Int32) < (2 : Int32) := by decide
  refine Go.icmpN X113.here hx (Jvm.hb hby d5_38) (tlt hc38_115).2.1 (q := 41) rfl ?_
  refine Go.aloadN X113.here hx (Jvm.hb hby d5_41) rfl rfl (q := 42) rfl ?_
  refine Go.iloadN X113.here hx (Jvm.hb hby d5_42) rfl (q := 43) rfl ?_
  refine Go.aloadN X113.here hx (Jvm.hb hby d5_43) rfl rfl (q := 44) rfl ?_
  have ne118 : a1 ≠ a104 := Nat.ne_of_lt (Nat.lt_of_lt_of_le F1.lt (Nat.le_of_eq g104.symm))
  have f117 := f109.other W113 (Or.inl ne118)
  refine Go.getf X113 hx hZ hown (word hw 13 rfl) e113 f117 (Jvm.hb hby d5_44) (q := 47) rfl ?_
  intro T116 X116 e116
  refine Go.iloadN X116.here hx (Jvm.hb hby d5_47) rfl (q := 48) rfl ?_
  have ne120 : as' ≠ a104 := Nat.ne_of_lt (Nat.lt_of_lt_of_le R2.lt (Nat.le_of_eq g104.symm))
  have f119 := f110.other W113 ne120
  refine Go.daload X116 hx hZ e116 f119 (Jvm.hb hby d5_48) (i := 1) (by decide) (by decide) rfl (q := 49) rfl ?_
  refine Go.aloadN X116.here hx (Jvm.hb hby d5_49) rfl rfl (q := 50) rfl ?_
  have f122 := f112.other W113 (Or.inl ne118)
  refine Go.getf X116 hx hZ hown (word hw 20 rfl) e116 f122 (Jvm.hb hby d5_50) (q := 53) rfl ?_
  intro T121 X121 e121
  refine Go.iconst X121.here hx (Jvm.hb hby d5_53) (v := (1 : Int32)) rfl (q := 54) rfl ?_
  obtain ⟨u54_1, hu54_1⟩ : ∃ zq, n - (1 : Int32) = zq := ⟨_, rfl⟩
  refine Go.isub X121.here hx (Jvm.hb hby d5_54) hu54_1 (q := 55) rfl ?_
  obtain ⟨u55_1, hu55_1⟩ : ∃ zq, FP.i2d u54_1 = zq := ⟨_, rfl⟩
  refine Go.i2d X121.here hx (Jvm.hb hby d5_55) hu55_1 (q := 56) rfl ?_
  obtain ⟨u56_1, hu56_1⟩ : ∃ zq, FP.ddiv s1 u55_1 = zq := ⟨_, rfl⟩
  refine Go.ddiv X121.here hx (Jvm.hb hby d5_56) (by subst_vars; first | exact hn.1 | exact hn.2) hu56_1 (q := 57) rfl ?_
  refine Go.dastore X121 hx hZ e121 R113 (Jvm.hb hby d5_57) (i := 1) (by decide) (by decide) rfl (q := 58) rfl ?_
  intro T123 h123 X123 e123 W123 R123
  have N123 := Fr.snoc X123 N113 r105
  have R123 : Row Z h123 a104 .double kk104 [(.double u56), (.double u56_1)] := R123
  refine Go.iinc X123.here hx (Jvm.hb hby d5_58) rfl (v := (2 : Int32)) (by decide) (l2 := #[.val (.ref a1), .val (.ref a104), .val (.int (2 : Int32))]) rfl (q := 61) rfl ?_
  refine Go.goto X123.here hx (Jvm.hb hby d5_61) (by decide) (q := 35) rfl ?_
  refine Go.iloadN X123.here hx (Jvm.hb hby d5_35) rfl (q := 36) rfl ?_
  refine Go.aloadN X123.here hx (Jvm.hb hby d5_36) rfl rfl (q := 37) rfl ?_
  refine Go.alen X123 hx hZ e123 R123 (Jvm.hb hby d5_37) (n := (2 : Int32)) (by first | rfl | decide) (q := 38) rfl ?_
  have hc38_125 : ¬ ((2 : Int32) < (2 : Int32)) := by decide
  refine Go.icmpY X123.here hx (Jvm.hb hby d5_38) (flt hc38_125).2.1 (by decide) (q := 64) rfl ?_
  refine Go.aloadN X123.here hx (Jvm.hb hby d5_64) rfl rfl (q := 65) rfl ?_
  subst hu54 hu55 hu56 hu54_1 hu55_1 hu56_1
  have k126 : Keep h0 h104 [] := (Keep.refl h0 []).ext E104
  have k127 : Keep h0 h113 [] := k126.wr W113 (Or.inr y105)
  have k128 : Keep h0 h123 [] := k127.wr W123 (Or.inr y105)
  refine Go.retA X123 hx hret hlk (Jvm.hb hby d5_65) rfl rfl rfl (by decide) (by decide) ?_
  rw [e123]
  exact ⟨a104, kk104, rfl, N123, k128, y105, R123⟩
theorem d6_0 : decode method_2_code 0 = .ok (.lload_n 0, 1) := by decide +kernel
theorem d6_1 : decode method_2_code 1 = .ok (.lload_n 0, 1) := by decide +kernel
theorem d6_2 : decode method_2_code 2 = .ok (.lmul, 1) := by decide +kernel
theorem d6_3 : decode method_2_code 3 = .ok (.l2d, 1) := by decide +kernel
theorem d6_4 : decode method_2_code 4 = .ok (.ldc2_w 7, 3) := by decide +kernel
theorem d6_7 : decode method_2_code 7 = .ok (.dmul, 1) := by decide +kernel
theorem d6_8 : decode method_2_code 8 = .ok (.dreturn, 1) := by decide +kernel
set_option maxRecDepth 65536 in
set_option maxHeartbeats 40000000 in
theorem rm_ref2 (l : Launch) (Z : State) (a0 : Array Value) (hw : ∀ d ∈ tables_1, d.before a0 Z = true) (x : Int64) (h0 : Heap) (n0 : Nat) (Z0 : n0 ≤ h0.size)  :
    Con l Z (⟨"com/example/ratewright/ratewright/inference/RunningVarianceAddPinLaw", "ref2", "(J)D"⟩ : MethodName) method_2_code 2 (some .double) ({ frames := 0, cells := 0, slots := 0, locals := 0 } : Room) #[(.long x)] h0 (fun vR hR LR => vR = some (.double (own_ref2 x)) ∧ Fr n0 LR ∧ hR = h0) := by
  refine enter (l := l) (Z := Z) (y := (⟨"com/example/ratewright/ratewright/inference/RunningVarianceAddPinLaw", "ref2", "(J)D"⟩ : MethodName)) (bytes := method_2_code) (maxL := 2) (ret := (some .double)) (ws := []) (rm := ({ frames := 0, cells := 0, slots := 0, locals := 0 } : Room)) (as' := #[(.long x)]) (h0 := h0) (Qv := (fun vR hR LR => vR = some (.double (own_ref2 x)) ∧ Fr n0 LR ∧ hR = h0)) (kc := 0) (ks := 0) (by first | exact plainFor_of_name (by first | (simp [plainName, overriddenIn]; done) | decide +kernel) | decide +kernel) (Ls := #[.val (.long x), .second]) (fun m => by first | (simp [entryFrame, mkF, argsToLocals, Value.category]; done) | rfl) ?_
  intro p e s m below meth c s₁ hx hby hml hown hnm hret hlk hZ X0 e0
  have hown : s.vm.findClass "com/example/ratewright/ratewright/inference/RunningVarianceAddPinLaw" = some m.cls := hown
  have hml : c.maxLocals = 2 := hml
  have N0 := Fr.nil n0
  refine Go.lloadN X0.here hx (Jvm.hb hby d6_0) rfl (q := 1) rfl ?_
  refine Go.lloadN X0.here hx (Jvm.hb hby d6_1) rfl (q := 2) rfl ?_
  obtain ⟨u2, hu2⟩ : ∃ zq, x * x = zq := ⟨_, rfl⟩
  refine Go.lmul X0.here hx (Jvm.hb hby d6_2) hu2 (q := 3) rfl ?_
  obtain ⟨u3, hu3⟩ : ∃ zq, FP.l2d u2 = zq := ⟨_, rfl⟩
  refine Go.l2d X0.here hx (Jvm.hb hby d6_3) hu3 (q := 4) rfl ?_
  refine Go.ldc2D X0 hx hown (mvT hZ (word hw 0 rfl)) (Jvm.hb hby d6_4) (q := 7) rfl ?_
  obtain ⟨u7, hu7⟩ : ∃ zq, FP.dmul u3 (4602678819172646912 : UInt64) = zq := ⟨_, rfl⟩
  refine Go.dmul X0.here hx (Jvm.hb hby d6_7) (own_mulnn hu3 q_half.1) hu7 (q := 8) rfl ?_
  refine Go.retD X0 hx hret hlk (Jvm.hb hby d6_8) (by decide) (by decide) ?_
  exact ⟨by subst_vars; rfl, N0, e0⟩
theorem d7_0 : decode method_3_code 0 = .ok (.lload_n 0, 1) := by decide +kernel
theorem d7_1 : decode method_3_code 1 = .ok (.lload_n 0, 1) := by decide +kernel
theorem d7_2 : decode method_3_code 2 = .ok (.lmul, 1) := by decide +kernel
theorem d7_3 : decode method_3_code 3 = .ok (.ldc2_w 9, 3) := by decide +kernel
theorem d7_6 : decode method_3_code 6 = .ok (.lload_n 2, 1) := by decide +kernel
theorem d7_7 : decode method_3_code 7 = .ok (.lmul, 1) := by decide +kernel
theorem d7_8 : decode method_3_code 8 = .ok (.lload_n 2, 1) := by decide +kernel
theorem d7_9 : decode method_3_code 9 = .ok (.lmul, 1) := by decide +kernel
theorem d7_10 : decode method_3_code 10 = .ok (.ladd, 1) := by decide +kernel
theorem d7_11 : decode method_3_code 11 = .ok (.l2d, 1) := by decide +kernel
theorem d7_12 : decode method_3_code 12 = .ok (.ldc2_w 11, 3) := by decide +kernel
theorem d7_15 : decode method_3_code 15 = .ok (.dmul, 1) := by decide +kernel
theorem d7_16 : decode method_3_code 16 = .ok (.dreturn, 1) := by decide +kernel
set_option maxRecDepth 65536 in
set_option maxHeartbeats 40000000 in
theorem rm_ref3 (l : Launch) (Z : State) (a0 : Array Value) (hw : ∀ d ∈ tables_1, d.before a0 Z = true) (x : Int64) (y : Int64) (h0 : Heap) (n0 : Nat) (Z0 : n0 ≤ h0.size)  :
    Con l Z (⟨"com/example/ratewright/ratewright/inference/RunningVarianceAddPinLaw", "ref3", "(JJ)D"⟩ : MethodName) method_3_code 4 (some .double) ({ frames := 0, cells := 0, slots := 0, locals := 0 } : Room) #[(.long x), (.long y)] h0 (fun vR hR LR => vR = some (.double (own_ref3 x y)) ∧ Fr n0 LR ∧ hR = h0) := by
  refine enter (l := l) (Z := Z) (y := (⟨"com/example/ratewright/ratewright/inference/RunningVarianceAddPinLaw", "ref3", "(JJ)D"⟩ : MethodName)) (bytes := method_3_code) (maxL := 4) (ret := (some .double)) (ws := []) (rm := ({ frames := 0, cells := 0, slots := 0, locals := 0 } : Room)) (as' := #[(.long x), (.long y)]) (h0 := h0) (Qv := (fun vR hR LR => vR = some (.double (own_ref3 x y)) ∧ Fr n0 LR ∧ hR = h0)) (kc := 0) (ks := 0) (by first | exact plainFor_of_name (by first | (simp [plainName, overriddenIn]; done) | decide +kernel) | decide +kernel) (Ls := #[.val (.long x), .second, .val (.long y), .second]) (fun m => by first | (simp [entryFrame, mkF, argsToLocals, Value.category]; done) | rfl) ?_
  intro p e s m below meth c s₁ hx hby hml hown hnm hret hlk hZ X0 e0
  have hown : s.vm.findClass "com/example/ratewright/ratewright/inference/RunningVarianceAddPinLaw" = some m.cls := hown
  have hml : c.maxLocals = 4 := hml
  have N0 := Fr.nil n0
  refine Go.lloadN X0.here hx (Jvm.hb hby d7_0) rfl (q := 1) rfl ?_
  refine Go.lloadN X0.here hx (Jvm.hb hby d7_1) rfl (q := 2) rfl ?_
  obtain ⟨u2, hu2⟩ : ∃ zq, x * x = zq := ⟨_, rfl⟩
  refine Go.lmul X0.here hx (Jvm.hb hby d7_2) hu2 (q := 3) rfl ?_
  refine Go.ldc2J X0 hx hown (mvT hZ (word hw 39 rfl)) (Jvm.hb hby d7_3) (q := 6) rfl ?_
  refine Go.lloadN X0.here hx (Jvm.hb hby d7_6) rfl (q := 7) rfl ?_
  obtain ⟨u7, hu7⟩ : ∃ zq, (3 : Int64) * y = zq := ⟨_, rfl⟩
  refine Go.lmul X0.here hx (Jvm.hb hby d7_7) hu7 (q := 8) rfl ?_
  refine Go.lloadN X0.here hx (Jvm.hb hby d7_8) rfl (q := 9) rfl ?_
  obtain ⟨u9, hu9⟩ : ∃ zq, u7 * y = zq := ⟨_, rfl⟩
  refine Go.lmul X0.here hx (Jvm.hb hby d7_9) hu9 (q := 10) rfl ?_
  obtain ⟨u10, hu10⟩ : ∃ zq, u2 + u9 = zq := ⟨_, rfl⟩
  refine Go.ladd X0.here hx (Jvm.hb hby d7_10) hu10 (q := 11) rfl ?_
  obtain ⟨u11, hu11⟩ : ∃ zq, FP.l2d u10 = zq := ⟨_, rfl⟩
  refine Go.l2d X0.here hx (Jvm.hb hby d7_11) hu11 (q := 12) rfl ?_
  refine Go.ldc2D X0 hx hown (mvT hZ (word hw 40 rfl)) (Jvm.hb hby d7_12) (q := 15) rfl ?_
  obtain ⟨u15, hu15⟩ : ∃ zq, FP.dmul u11 (4598175219545276416 : UInt64) = zq := ⟨_, rfl⟩
  refine Go.dmul X0.here hx (Jvm.hb hby d7_15) (own_mulnn hu11 q_quart.1) hu15 (q := 16) rfl ?_
  refine Go.retD X0 hx hret hlk (Jvm.hb hby d7_16) (by decide) (by decide) ?_
  exact ⟨by subst_vars; rfl, N0, e0⟩
set_option maxRecDepth 65536 in
set_option maxHeartbeats 40000000 in
theorem rm_law (l : Launch) (Z : State) (a0 : Array Value) (hw : ∀ d ∈ tables_1, d.before a0 Z = true) (ws : List Jvm.Cond) (q1 : Int32) (q2 : Int32) (q3 : Int32) (q4 : Int32) (q5 : Int32) (q6 : Int32) (h0 : Heap) (n0 : Nat) (Z0 : n0 ≤ h0.size)  :
    MetFree l x (head1 (Jvm.Cond.code x code maxLocals ret :: ws) room_1) (fun a U => a = #[(.int q1), (.int q2), (.int q3), (.int q4), (.int q5), (.int q6)] ∧ Z.Warmed39 U.vm ∧ U.heap = h0) (fun _ _ _ _ _ => True) (fun _ U o U' => ∃ v L, o = .returned v ∧ (fun vR hR LR => vR = some (.int (1 : Int32)) ∧ Fr n0 LR) v U'.heap L ∧ FrameEnd U o U' L 24 128) := by
  refine enter (l := l) (Z := Z) (y := x) (bytes := code) (maxL := maxLocals) (ret := ret) (ws := ws) (rm := room_1) (as' := #[(.int q1), (.int q2), (.int q3), (.int q4), (.int q5), (.int q6)]) (h0 := h0) (Qv := (fun vR hR LR => vR = some (.int (1 : Int32)) ∧ Fr n0 LR)) (kc := 24) (ks := 128) (by first | exact plainFor_of_name (by first | (simp [plainName, overriddenIn]; done) | decide +kernel) | decide +kernel) (Ls := #[.val (.int q1), .val (.int q2), .val (.int q3), .val (.int q4), .val (.int q5), .val (.int q6), .unset, .unset, .unset, .unset, .unset, .unset, .unset, .unset, .unset, .unset, .unset, .unset, .unset, .unset, .unset, .unset, .unset, .unset, .unset, .unset, .unset, .unset, .unset, .unset, .unset]) (fun m => by first | (simp [entryFrame, mkF, argsToLocals, Value.category, maxLocals]; done) | rfl) ?_
  intro p e s m below meth c s₁ hx hby hml hown hnm hret hlk hZ X0 e0
  have hown : s.vm.findClass "com/example/ratewright/ratewright/inference/RunningVarianceAddPinLaw" = some m.cls := hown
  have hml : c.maxLocals = 31 := hml
  have N0 := Fr.nil n0
  refine Go.iloadN X0.here hx (Jvm.hb hby at_0) rfl (q := 1) rfl ?_
  refine Go.bipush X0.here hx (Jvm.hb hby at_1) (v := (12 : Int32)) rfl (q := 3) rfl ?_
  obtain ⟨u3, hu3⟩ : ∃ zq, q1 <<< ((12 : Int32) &&& 31) = zq := ⟨_, rfl⟩
  refine Go.ishl X0.here hx (Jvm.hb hby at_3) hu3 (q := 4) rfl ?_
  refine Go.bipush X0.here hx (Jvm.hb hby at_4) (v := (12 : Int32)) rfl (q := 6) rfl ?_
  obtain ⟨u6, hu6⟩ : ∃ zq, u3 >>> ((12 : Int32) &&& 31) = zq := ⟨_, rfl⟩
  refine Go.ishr X0.here hx (Jvm.hb hby at_6) hu6 (q := 7) rfl ?_
  refine Go.istore X0.here hx (Jvm.hb hby at_7) (l2 := #[.val (.int q1), .val (.int q2), .val (.int q3), .val (.int q4), .val (.int q5), .val (.int q6), .val (.int u6), .unset, .unset, .unset, .unset, .unset, .unset, .unset, .unset, .unset, .unset, .unset, .unset, .unset, .unset, .unset, .unset, .unset, .unset, .unset, .unset, .unset, .unset, .unset, .unset]) rfl (q := 9) rfl ?_
  refine Go.iloadN X0.here hx (Jvm.hb hby at_9) rfl (q := 10) rfl ?_
  refine Go.bipush X0.here hx (Jvm.hb hby at_10) (v := (12 : Int32)) rfl (q := 12) rfl ?_
  obtain ⟨u12, hu12⟩ : ∃ zq, q2 <<< ((12 : Int32) &&& 31) = zq := ⟨_, rfl⟩
  refine Go.ishl X0.here hx (Jvm.hb hby at_12) hu12 (q := 13) rfl ?_
  refine Go.bipush X0.here hx (Jvm.hb hby at_13) (v := (12 : Int32)) rfl (q := 15) rfl ?_
  obtain ⟨u15, hu15⟩ : ∃ zq, u12 >>> ((12 : Int32) &&& 31) = zq := ⟨_, rfl⟩
  refine Go.ishr X0.here hx (Jvm.hb hby at_15) hu15 (q := 16) rfl ?_
  refine Go.istore X0.here hx (Jvm.hb hby at_16) (l2 := #[.val (.int q1), .val (.int q2), .val (.int q3), .val (.int q4), .val (.int q5), .val (.int q6), .val (.int u6), .val (.int u15), .unset, .unset, .unset, .unset, .unset, .unset, .unset, .unset, .unset, .unset, .unset, .unset, .unset, .unset, .unset, .unset, .unset, .unset, .unset, .unset, .unset, .unset, .unset]) rfl (q := 18) rfl ?_
  refine Go.iloadN X0.here hx (Jvm.hb hby at_18) rfl (q := 19) rfl ?_
  refine Go.bipush X0.here hx (Jvm.hb hby at_19) (v := (12 : Int32)) rfl (q := 21) rfl ?_
  obtain ⟨u21, hu21⟩ : ∃ zq, q3 <<< ((12 : Int32) &&& 31) = zq := ⟨_, rfl⟩
  refine Go.ishl X0.here hx (Jvm.hb hby at_21) hu21 (q := 22) rfl ?_
  refine Go.bipush X0.here hx (Jvm.hb hby at_22) (v := (12 : Int32)) rfl (q := 24) rfl ?_
  obtain ⟨u24, hu24⟩ : ∃ zq, u21 >>> ((12 : Int32) &&& 31) = zq := ⟨_, rfl⟩
  refine Go.ishr X0.here hx (Jvm.hb hby at_24) hu24 (q := 25) rfl ?_
  refine Go.istore X0.here hx (Jvm.hb hby at_25) (l2 := #[.val (.int q1), .val (.int q2), .val (.int q3), .val (.int q4), .val (.int q5), .val (.int q6), .val (.int u6), .val (.int u15), .val (.int u24), .unset, .unset, .unset, .unset, .unset, .unset, .unset, .unset, .unset, .unset, .unset, .unset, .unset, .unset, .unset, .unset, .unset, .unset, .unset, .unset, .unset, .unset]) rfl (q := 27) rfl ?_
  refine Go.iloadN X0.here hx (Jvm.hb hby at_27) rfl (q := 28) rfl ?_
  refine Go.bipush X0.here hx (Jvm.hb hby at_28) (v := (12 : Int32)) rfl (q := 30) rfl ?_
  obtain ⟨u30, hu30⟩ : ∃ zq, q4 <<< ((12 : Int32) &&& 31) = zq := ⟨_, rfl⟩
  refine Go.ishl X0.here hx (Jvm.hb hby at_30) hu30 (q := 31) rfl ?_
  refine Go.bipush X0.here hx (Jvm.hb hby at_31) (v := (12 : Int32)) rfl (q := 33) rfl ?_
  obtain ⟨u33, hu33⟩ : ∃ zq, u30 >>> ((12 : Int32) &&& 31) = zq := ⟨_, rfl⟩
  refine Go.ishr X0.here hx (Jvm.hb hby at_33) hu33 (q := 34) rfl ?_
  refine Go.istore X0.here hx (Jvm.hb hby at_34) (l2 := #[.val (.int q1), .val (.int q2), .val (.int q3), .val (.int q4), .val (.int q5), .val (.int q6), .val (.int u6), .val (.int u15), .val (.int u24), .val (.int u33), .unset, .unset, .unset, .unset, .unset, .unset, .unset, .unset, .unset, .unset, .unset, .unset, .unset, .unset, .unset, .unset, .unset, .unset, .unset, .unset, .unset]) rfl (q := 36) rfl ?_
  refine Go.iload X0.here hx (Jvm.hb hby at_36) rfl (q := 38) rfl ?_
  refine Go.bipush X0.here hx (Jvm.hb hby at_38) (v := (12 : Int32)) rfl (q := 40) rfl ?_
  obtain ⟨u40, hu40⟩ : ∃ zq, q5 <<< ((12 : Int32) &&& 31) = zq := ⟨_, rfl⟩
  refine Go.ishl X0.here hx (Jvm.hb hby at_40) hu40 (q := 41) rfl ?_
  refine Go.bipush X0.here hx (Jvm.hb hby at_41) (v := (12 : Int32)) rfl (q := 43) rfl ?_
  obtain ⟨u43, hu43⟩ : ∃ zq, u40 >>> ((12 : Int32) &&& 31) = zq := ⟨_, rfl⟩
  refine Go.ishr X0.here hx (Jvm.hb hby at_43) hu43 (q := 44) rfl ?_
  refine Go.istore X0.here hx (Jvm.hb hby at_44) (l2 := #[.val (.int q1), .val (.int q2), .val (.int q3), .val (.int q4), .val (.int q5), .val (.int q6), .val (.int u6), .val (.int u15), .val (.int u24), .val (.int u33), .val (.int u43), .unset, .unset, .unset, .unset, .unset, .unset, .unset, .unset, .unset, .unset, .unset, .unset, .unset, .unset, .unset, .unset, .unset, .unset, .unset, .unset]) rfl (q := 46) rfl ?_
  refine Go.iload X0.here hx (Jvm.hb hby at_46) rfl (q := 48) rfl ?_
  refine Go.bipush X0.here hx (Jvm.hb hby at_48) (v := (12 : Int32)) rfl (q := 50) rfl ?_
  obtain ⟨u50, hu50⟩ : ∃ zq, q6 <<< ((12 : Int32) &&& 31) = zq := ⟨_, rfl⟩
  refine Go.ishl X0.here hx (Jvm.hb hby at_50) hu50 (q := 51) rfl ?_
  refine Go.bipush X0.here hx (Jvm.hb hby at_51) (v := (12 : Int32)) rfl (q := 53) rfl ?_
  obtain ⟨u53, hu53⟩ : ∃ zq, u50 >>> ((12 : Int32) &&& 31) = zq := ⟨_, rfl⟩
  refine Go.ishr X0.here hx (Jvm.hb hby at_53) hu53 (q := 54) rfl ?_
  refine Go.istore X0.here hx (Jvm.hb hby at_54) (l2 := #[.val (.int q1), .val (.int q2), .val (.int q3), .val (.int q4), .val (.int q5), .val (.int q6), .val (.int u6), .val (.int u15), .val (.int u24), .val (.int u33), .val (.int u43), .val (.int u53), .unset, .unset, .unset, .unset, .unset, .unset, .unset, .unset, .unset, .unset, .unset, .unset, .unset, .unset, .unset, .unset, .unset, .unset, .unset]) rfl (q := 56) rfl ?_
  refine Go.iload X0.here hx (Jvm.hb hby at_56) rfl (q := 58) rfl ?_
  obtain ⟨u58, hu58⟩ : ∃ zq, FP.i2d u6 = zq := ⟨_, rfl⟩
  refine Go.i2d X0.here hx (Jvm.hb hby at_58) hu58 (q := 59) rfl ?_
  refine Go.dstore X0.here hx (Jvm.hb hby at_59) (l2 := #[.val (.int q1), .val (.int q2), .val (.int q3), .val (.int q4), .val (.int q5), .val (.int q6), .val (.int u6), .val (.int u15), .val (.int u24), .val (.int u33), .val (.int u43), .val (.int u53), .val (.double u58), .second, .unset, .unset, .unset, .unset, .unset, .unset, .unset, .unset, .unset, .unset, .unset, .unset, .unset, .unset, .unset, .unset, .unset]) rfl (q := 61) rfl ?_
  refine Go.iload X0.here hx (Jvm.hb hby at_61) rfl (q := 63) rfl ?_
  obtain ⟨u63, hu63⟩ : ∃ zq, FP.i2d u33 = zq := ⟨_, rfl⟩
  refine Go.i2d X0.here hx (Jvm.hb hby at_63) hu63 (q := 64) rfl ?_
  refine Go.dstore X0.here hx (Jvm.hb hby at_64) (l2 := #[.val (.int q1), .val (.int q2), .val (.int q3), .val (.int q4), .val (.int q5), .val (.int q6), .val (.int u6), .val (.int u15), .val (.int u24), .val (.int u33), .val (.int u43), .val (.int u53), .val (.double u58), .second, .val (.double u63), .second, .unset, .unset, .unset, .unset, .unset, .unset, .unset, .unset, .unset, .unset, .unset, .unset, .unset, .unset, .unset]) rfl (q := 66) rfl ?_
  refine Go.iload X0.here hx (Jvm.hb hby at_66) rfl (q := 68) rfl ?_
  refine Go.iload X0.here hx (Jvm.hb hby at_68) rfl (q := 70) rfl ?_
  obtain ⟨u70, hu70⟩ : ∃ zq, u6 + u15 = zq := ⟨_, rfl⟩
  refine Go.iadd X0.here hx (Jvm.hb hby at_70) hu70 (q := 71) rfl ?_
  obtain ⟨u71, hu71⟩ : ∃ zq, FP.i2d u70 = zq := ⟨_, rfl⟩
  refine Go.i2d X0.here hx (Jvm.hb hby at_71) hu71 (q := 72) rfl ?_
  refine Go.dstore X0.here hx (Jvm.hb hby at_72) (l2 := #[.val (.int q1), .val (.int q2), .val (.int q3), .val (.int q4), .val (.int q5), .val (.int q6), .val (.int u6), .val (.int u15), .val (.int u24), .val (.int u33), .val (.int u43), .val (.int u53), .val (.double u58), .second, .val (.double u63), .second, .val (.double u71), .second, .unset, .unset, .unset, .unset, .unset, .unset, .unset, .unset, .unset, .unset, .unset, .unset, .unset]) rfl (q := 74) rfl ?_
  refine Go.iload X0.here hx (Jvm.hb hby at_74) rfl (q := 76) rfl ?_
  refine Go.iload X0.here hx (Jvm.hb hby at_76) rfl (q := 78) rfl ?_
  obtain ⟨u78, hu78⟩ : ∃ zq, u33 + u43 = zq := ⟨_, rfl⟩
  refine Go.iadd X0.here hx (Jvm.hb hby at_78) hu78 (q := 79) rfl ?_
  obtain ⟨u79, hu79⟩ : ∃ zq, FP.i2d u78 = zq := ⟨_, rfl⟩
  refine Go.i2d X0.here hx (Jvm.hb hby at_79) hu79 (q := 80) rfl ?_
  refine Go.dstore X0.here hx (Jvm.hb hby at_80) (l2 := #[.val (.int q1), .val (.int q2), .val (.int q3), .val (.int q4), .val (.int q5), .val (.int q6), .val (.int u6), .val (.int u15), .val (.int u24), .val (.int u33), .val (.int u43), .val (.int u53), .val (.double u58), .second, .val (.double u63), .second, .val (.double u71), .second, .val (.double u79), .second, .unset, .unset, .unset, .unset, .unset, .unset, .unset, .unset, .unset, .unset, .unset]) rfl (q := 82) rfl ?_
  refine Go.iconst X0.here hx (Jvm.hb hby at_82) (v := (2 : Int32)) rfl (q := 83) rfl ?_
  refine Go.iload X0.here hx (Jvm.hb hby at_83) rfl (q := 85) rfl ?_
  obtain ⟨u85, hu85⟩ : ∃ zq, (2 : Int32) * u6 = zq := ⟨_, rfl⟩
  refine Go.imul X0.here hx (Jvm.hb hby at_85) hu85 (q := 86) rfl ?_
  refine Go.iload X0.here hx (Jvm.hb hby at_86) rfl (q := 88) rfl ?_
  obtain ⟨u88, hu88⟩ : ∃ zq, u85 + u15 = zq := ⟨_, rfl⟩
  refine Go.iadd X0.here hx (Jvm.hb hby at_88) hu88 (q := 89) rfl ?_
  refine Go.iconst X0.here hx (Jvm.hb hby at_89) (v := (3 : Int32)) rfl (q := 90) rfl ?_
  refine Go.iload X0.here hx (Jvm.hb hby at_90) rfl (q := 92) rfl ?_
  obtain ⟨u92, hu92⟩ : ∃ zq, (3 : Int32) * u24 = zq := ⟨_, rfl⟩
  refine Go.imul X0.here hx (Jvm.hb hby at_92) hu92 (q := 93) rfl ?_
  obtain ⟨u93, hu93⟩ : ∃ zq, u88 + u92 = zq := ⟨_, rfl⟩
  refine Go.iadd X0.here hx (Jvm.hb hby at_93) hu93 (q := 94) rfl ?_
  obtain ⟨u94, hu94⟩ : ∃ zq, FP.i2d u93 = zq := ⟨_, rfl⟩
  refine Go.i2d X0.here hx (Jvm.hb hby at_94) hu94 (q := 95) rfl ?_
  refine Go.ldc2D X0 hx hown (mvT hZ (word hw 0 rfl)) (Jvm.hb hby at_95) (q := 98) rfl ?_
  obtain ⟨u98, hu98⟩ : ∃ zq, FP.dmul u94 (4602678819172646912 : UInt64) = zq := ⟨_, rfl⟩
  have A := own_col (own_rng hu3 hu6) (own_rng hu12 hu15) (own_rng hu21 hu24) hu58 hu70 hu71 hu85 hu88 hu92 hu93 hu94 hu98
  refine Go.dmul X0.here hx (Jvm.hb hby at_98) A.2.2.2.2.2.1 hu98 (q := 99) rfl ?_
  refine Go.dstore X0.here hx (Jvm.hb hby at_99) (l2 := #[.val (.int q1), .val (.int q2), .val (.int q3), .val (.int q4), .val (.int q5), .val (.int q6), .val (.int u6), .val (.int u15), .val (.int u24), .val (.int u33), .val (.int u43), .val (.int u53), .val (.double u58), .second, .val (.double u63), .second, .val (.double u71), .second, .val (.double u79), .second, .val (.double u98), .second, .unset, .unset, .unset, .unset, .unset, .unset, .unset, .unset, .unset]) rfl (q := 101) rfl ?_
  refine Go.iconst X0.here hx (Jvm.hb hby at_101) (v := (2 : Int32)) rfl (q := 102) rfl ?_
  refine Go.iload X0.here hx (Jvm.hb hby at_102) rfl (q := 104) rfl ?_
  obtain ⟨u104, hu104⟩ : ∃ zq, (2 : Int32) * u33 = zq := ⟨_, rfl⟩
  refine Go.imul X0.here hx (Jvm.hb hby at_104) hu104 (q := 105) rfl ?_
  refine Go.iload X0.here hx (Jvm.hb hby at_105) rfl (q := 107) rfl ?_
  obtain ⟨u107, hu107⟩ : ∃ zq, u104 + u43 = zq := ⟨_, rfl⟩
  refine Go.iadd X0.here hx (Jvm.hb hby at_107) hu107 (q := 108) rfl ?_
  refine Go.iconst X0.here hx (Jvm.hb hby at_108) (v := (3 : Int32)) rfl (q := 109) rfl ?_
  refine Go.iload X0.here hx (Jvm.hb hby at_109) rfl (q := 111) rfl ?_
  obtain ⟨u111, hu111⟩ : ∃ zq, (3 : Int32) * u53 = zq := ⟨_, rfl⟩
  refine Go.imul X0.here hx (Jvm.hb hby at_111) hu111 (q := 112) rfl ?_
  obtain ⟨u112, hu112⟩ : ∃ zq, u107 + u111 = zq := ⟨_, rfl⟩
  refine Go.iadd X0.here hx (Jvm.hb hby at_112) hu112 (q := 113) rfl ?_
  obtain ⟨u113, hu113⟩ : ∃ zq, FP.i2d u112 = zq := ⟨_, rfl⟩
  refine Go.i2d X0.here hx (Jvm.hb hby at_113) hu113 (q := 114) rfl ?_
  refine Go.ldc2D X0 hx hown (mvT hZ (word hw 0 rfl)) (Jvm.hb hby at_114) (q := 117) rfl ?_
  obtain ⟨u117, hu117⟩ : ∃ zq, FP.dmul u113 (4602678819172646912 : UInt64) = zq := ⟨_, rfl⟩
  have B := own_col (own_rng hu30 hu33) (own_rng hu40 hu43) (own_rng hu50 hu53) hu63 hu78 hu79 hu104 hu107 hu111 hu112 hu113 hu117
  refine Go.dmul X0.here hx (Jvm.hb hby at_117) B.2.2.2.2.2.1 hu117 (q := 118) rfl ?_
  refine Go.dstore X0.here hx (Jvm.hb hby at_118) (l2 := #[.val (.int q1), .val (.int q2), .val (.int q3), .val (.int q4), .val (.int q5), .val (.int q6), .val (.int u6), .val (.int u15), .val (.int u24), .val (.int u33), .val (.int u43), .val (.int u53), .val (.double u58), .second, .val (.double u63), .second, .val (.double u71), .second, .val (.double u79), .second, .val (.double u98), .second, .val (.double u117), .second, .unset, .unset, .unset, .unset, .unset, .unset, .unset]) rfl (q := 120) rfl ?_
  refine Go.iconst X0.here hx (Jvm.hb hby at_120) (v := (2 : Int32)) rfl (q := 121) rfl ?_
  refine Go.newarr X0 hx hZ (aty := .double) (word hw 1 rfl) e0 (Jvm.hb hby at_121) (by decide) (k := 2) (by decide) (by decide) (by decide) (by decide) (ad := "[D") (by decide) (q := 123) rfl ?_
  intro T101 h101 a101 kk101 g101 X101 e101 E101 R101 A101
  have r102 : n0 ≤ a101 := Nat.le_trans Z0 (Nat.le_of_eq g101.symm)
  have R101 : Row Z h101 a101 .double kk101 [(.double (0 : UInt64)), (.double (0 : UInt64))] := R101
  refine Go.astore X101.here hx (Jvm.hb hby at_123) rfl (l2 := #[.val (.int q1), .val (.int q2), .val (.int q3), .val (.int q4), .val (.int q5), .val (.int q6), .val (.int u6), .val (.int u15), .val (.int u24), .val (.int u33), .val (.int u43), .val (.int u53), .val (.double u58), .second, .val (.double u63), .second, .val (.double u71), .second, .val (.double u79), .second, .val (.double u98), .second, .val (.double u117), .second, .val (.ref a101), .unset, .unset, .unset, .unset, .unset, .unset]) rfl (q := 125) rfl ?_
  refine Go.aload X101.here hx (Jvm.hb hby at_125) rfl rfl (q := 127) rfl ?_
  refine Go.iconst X101.here hx (Jvm.hb hby at_127) (v := (0 : Int32)) rfl (q := 128) rfl ?_
  refine Go.dload X101.here hx (Jvm.hb hby at_128) rfl (q := 130) rfl ?_
  refine Go.dastore X101 hx hZ e101 R101 (Jvm.hb hby at_130) (i := 0) (by decide) (by decide) rfl (q := 131) rfl ?_
  intro T103 h103 X103 e103 W103 R103
  have N103 := Fr.snoc X103 N0 r102
  have R103 : Row Z h103 a101 .double kk101 [(.double u58), (.double (0 : UInt64))] := R103
  refine Go.aload X103.here hx (Jvm.hb hby at_131) rfl rfl (q := 133) rfl ?_
  refine Go.iconst X103.here hx (Jvm.hb hby at_133) (v := (1 : Int32)) rfl (q := 134) rfl ?_
  refine Go.dload X103.here hx (Jvm.hb hby at_134) rfl (q := 136) rfl ?_
  refine Go.dastore X103 hx hZ e103 R103 (Jvm.hb hby at_136) (i := 1) (by decide) (by decide) rfl (q := 137) rfl ?_
  intro T104 h104 X104 e104 W104 R104
  have N104 := Fr.snoc X104 N103 r102
  have R104 : Row Z h104 a101 .double kk101 [(.double u58), (.double u63)] := R104
  refine Go.iconst X104.here hx (Jvm.hb hby at_137) (v := (2 : Int32)) rfl (q := 138) rfl ?_
  refine Go.newarr X104 hx hZ (aty := .double) (word hw 1 rfl) e104 (Jvm.hb hby at_138) (by decide) (k := 2) (by decide) (by decide) (by decide) (by decide) (ad := "[D") (by decide) (q := 140) rfl ?_
  intro T105 h105 a105 kk105 g105 X105 e105 E105 R105 A105
  have z106 : n0 ≤ h101.size := Nat.le_trans Z0 E101.1
  have z107 : n0 ≤ h103.size := Nat.le_trans z106 (Nat.le_of_eq W103.size.symm)
  have z108 : n0 ≤ h104.size := Nat.le_trans z107 (Nat.le_of_eq W104.size.symm)
  have r109 : n0 ≤ a105 := Nat.le_trans z108 (Nat.le_of_eq g105.symm)
  have R105 : Row Z h105 a105 .double kk105 [(.double (0 : UInt64)), (.double (0 : UInt64))] := R105
  refine Go.astore X105.here hx (Jvm.hb hby at_140) rfl (l2 := #[.val (.int q1), .val (.int q2), .val (.int q3), .val (.int q4), .val (.int q5), .val (.int q6), .val (.int u6), .val (.int u15), .val (.int u24), .val (.int u33), .val (.int u43), .val (.int u53), .val (.double u58), .second, .val (.double u63), .second, .val (.double u71), .second, .val (.double u79), .second, .val (.double u98), .second, .val (.double u117), .second, .val (.ref a101), .val (.ref a105), .unset, .unset, .unset, .unset, .unset]) rfl (q := 142) rfl ?_
  refine Go.aload X105.here hx (Jvm.hb hby at_142) rfl rfl (q := 144) rfl ?_
  refine Go.iconst X105.here hx (Jvm.hb hby at_144) (v := (0 : Int32)) rfl (q := 145) rfl ?_
  refine Go.dload X105.here hx (Jvm.hb hby at_145) rfl (q := 147) rfl ?_
  refine Go.dastore X105 hx hZ e105 R105 (Jvm.hb hby at_147) (i := 0) (by decide) (by decide) rfl (q := 148) rfl ?_
  intro T110 h110 X110 e110 W110 R110
  have N110 := Fr.snoc X110 N104 r109
  have R110 : Row Z h110 a105 .double kk105 [(.double u71), (.double (0 : UInt64))] := R110
  refine Go.aload X110.here hx (Jvm.hb hby at_148) rfl rfl (q := 150) rfl ?_
  refine Go.iconst X110.here hx (Jvm.hb hby at_150) (v := (1 : Int32)) rfl (q := 151) rfl ?_
  refine Go.dload X110.here hx (Jvm.hb hby at_151) rfl (q := 153) rfl ?_
  refine Go.dastore X110 hx hZ e110 R110 (Jvm.hb hby at_153) (i := 1) (by decide) (by decide) rfl (q := 154) rfl ?_
  intro T111 h111 X111 e111 W111 R111
  have N111 := Fr.snoc X111 N110 r109
  have R111 : Row Z h111 a105 .double kk105 [(.double u71), (.double u79)] := R111
  refine Go.iconst X111.here hx (Jvm.hb hby at_154) (v := (2 : Int32)) rfl (q := 155) rfl ?_
  refine Go.newarr X111 hx hZ (aty := .double) (word hw 1 rfl) e111 (Jvm.hb hby at_155) (by decide) (k := 2) (by decide) (by decide) (by decide) (by decide) (ad := "[D") (by decide) (q := 157) rfl ?_
  intro T112 h112 a112 kk112 g112 X112 e112 E112 R112 A112
  have z113 : n0 ≤ h105.size := Nat.le_trans z108 E105.1
  have z114 : n0 ≤ h110.size := Nat.le_trans z113 (Nat.le_of_eq W110.size.symm)
  have z115 : n0 ≤ h111.size := Nat.le_trans z114 (Nat.le_of_eq W111.size.symm)
  have r116 : n0 ≤ a112 := Nat.le_trans z115 (Nat.le_of_eq g112.symm)
  have R112 : Row Z h112 a112 .double kk112 [(.double (0 : UInt64)), (.double (0 : UInt64))] := R112
  refine Go.astore X112.here hx (Jvm.hb hby at_157) rfl (l2 := #[.val (.int q1), .val (.int q2), .val (.int q3), .val (.int q4), .val (.int q5), .val (.int q6), .val (.int u6), .val (.int u15), .val (.int u24), .val (.int u33), .val (.int u43), .val (.int u53), .val (.double u58), .second, .val (.double u63), .second, .val (.double u71), .second, .val (.double u79), .second, .val (.double u98), .second, .val (.double u117), .second, .val (.ref a101), .val (.ref a105), .val (.ref a112), .unset, .unset, .unset, .unset]) rfl (q := 159) rfl ?_
  refine Go.aload X112.here hx (Jvm.hb hby at_159) rfl rfl (q := 161) rfl ?_
  refine Go.iconst X112.here hx (Jvm.hb hby at_161) (v := (0 : Int32)) rfl (q := 162) rfl ?_
  refine Go.dload X112.here hx (Jvm.hb hby at_162) rfl (q := 164) rfl ?_
  refine Go.dastore X112 hx hZ e112 R112 (Jvm.hb hby at_164) (i := 0) (by decide) (by decide) rfl (q := 165) rfl ?_
  intro T117 h117 X117 e117 W117 R117
  have N117 := Fr.snoc X117 N111 r116
  have R117 : Row Z h117 a112 .double kk112 [(.double u98), (.double (0 : UInt64))] := R117
  refine Go.aload X117.here hx (Jvm.hb hby at_165) rfl rfl (q := 167) rfl ?_
  refine Go.iconst X117.here hx (Jvm.hb hby at_167) (v := (1 : Int32)) rfl (q := 168) rfl ?_
  refine Go.dload X117.here hx (Jvm.hb hby at_168) rfl (q := 170) rfl ?_
  refine Go.dastore X117 hx hZ e117 R117 (Jvm.hb hby at_170) (i := 1) (by decide) (by decide) rfl (q := 171) rfl ?_
  intro T118 h118 X118 e118 W118 R118
  have N118 := Fr.snoc X118 N117 r116
  have R118 : Row Z h118 a112 .double kk112 [(.double u98), (.double u117)] := R118
  refine Go.new X118 hx hZ hown (word hw 2 rfl) (word hw 3 rfl) (word hw 4 rfl) e118 (Jvm.hb hby at_171) (by decide) (by decide) (q := 174) rfl ?_
  intro T119 h119 a119 g119 X119 e119 E119 A119 D119
  have z120 : n0 ≤ h112.size := Nat.le_trans z115 E112.1
  have z121 : n0 ≤ h117.size := Nat.le_trans z120 (Nat.le_of_eq W117.size.symm)
  have z122 : n0 ≤ h118.size := Nat.le_trans z121 (Nat.le_of_eq W118.size.symm)
  have r123 : n0 ≤ a119 := Nat.le_trans z122 (Nat.le_of_eq g119.symm)
  have F124 : Fld Z h119 a119 "com/example/ratewright/ratewright/inference/RunningVariance" "mean" "[D" .null := D119 (Or.inr (word hw 12 rfl)) (ty := (.array .double)) (by decide)
  have F125 : Fld Z h119 a119 "com/example/ratewright/ratewright/inference/RunningVariance" "sumOfSquares" "[D" .null := D119 (Or.inr (word hw 14 rfl)) (ty := (.array .double)) (by decide)
  have F126 : Fld Z h119 a119 "com/example/ratewright/ratewright/inference/RunningVariance" "count" "I" (.int (0 : Int32)) := D119 (Or.inl (word hw 21 rfl)) (ty := .int) (by decide)
  refine Go.dup X119.here hx (Jvm.hb hby at_174) rfl (q := 175) rfl ?_
  refine Go.iconst X119.here hx (Jvm.hb hby at_175) (v := (2 : Int32)) rfl (q := 176) rfl ?_
  have z128 : n0 ≤ h119.size := Nat.le_trans z122 E119.1
  refine Go.special X119 hx hZ (y := (⟨"com/example/ratewright/ratewright/inference/RunningVariance", "<init>", "(I)V"⟩ : MethodName)) rfl hown (word hw 5 rfl) (word hw 6 rfl) (word hw 7 rfl) (word hw 4 rfl) (by decide) (rm_init l Z a0 hw a119 .null .null (.int (0 : Int32)) h119 n0 z128 A119 F124 F125 F126 r123) e119 (a := a119) (argsL := [(.int (2 : Int32))]) (rest := [(.ref a119)]) (W := 1) (Jvm.hb hby at_176) rfl rfl (lenOf (pd0) rfl) (by rw [hml]; rfl) (Nat.le_of_eq rfl) (by decide) (by decide) (by decide) (by decide) (q := 179) rfl ?_
  intro T127 L127 w127 X127 hQ127
  obtain ⟨a127, a127_1, kk127_2, kk127_3, rfl, M127, K127, G127_0, G127_1, P127_0, P127_1, P127_2, P127_3, P127_4, P127_5, R127_0⟩ := hQ127
  have N127 := Fr.app N118 M127
  have r129 : n0 ≤ a127 := Nat.le_trans z128 (G127_0)
  have r130 : n0 ≤ a127_1 := Nat.le_trans z128 (G127_1)
  show Go p e below _ (T127.setTop (mkF m 179 #[.val (.int q1), .val (.int q2), .val (.int q3), .val (.int q4), .val (.int q5), .val (.int q6), .val (.int u6), .val (.int u15), .val (.int u24), .val (.int u33), .val (.int u43), .val (.int u53), .val (.double u58), .second, .val (.double u63), .second, .val (.double u71), .second, .val (.double u79), .second, .val (.double u98), .second, .val (.double u117), .second, .val (.ref a101), .val (.ref a105), .val (.ref a112), .unset, .unset, .unset, .unset] [(.ref a119)]))
  refine Go.astore X127.here hx (Jvm.hb hby at_179) rfl (l2 := #[.val (.int q1), .val (.int q2), .val (.int q3), .val (.int q4), .val (.int q5), .val (.int q6), .val (.int u6), .val (.int u15), .val (.int u24), .val (.int u33), .val (.int u43), .val (.int u53), .val (.double u58), .second, .val (.double u63), .second, .val (.double u71), .second, .val (.double u79), .second, .val (.double u98), .second, .val (.double u117), .second, .val (.ref a101), .val (.ref a105), .val (.ref a112), .val (.ref a119), .unset, .unset, .unset]) rfl (q := 181) rfl ?_
  refine Go.aload X127.here hx (Jvm.hb hby at_181) rfl rfl (q := 183) rfl ?_
  refine Go.aload X127.here hx (Jvm.hb hby at_183) rfl rfl (q := 185) rfl ?_
  have f132 := R104.ext E105
  have ne134 : a101 ≠ a105 := Nat.ne_of_lt (Nat.lt_of_lt_of_le R104.lt (Nat.le_of_eq g105.symm))
  have f133 := f132.other W110 ne134
  have f135 := f133.other W111 ne134
  have f136 := f135.ext E112
  have ne138 : a101 ≠ a112 := Nat.ne_of_lt (Nat.lt_of_lt_of_le f135.lt (Nat.le_of_eq g112.symm))
  have f137 := f136.other W117 ne138
  have f139 := f137.other W118 ne138
  have f140 := f139.ext E119
  have ne142 : a101 ≠ a119 := Nat.ne_of_lt (Nat.lt_of_lt_of_le f139.lt (Nat.le_of_eq g119.symm))
  have f141 := f140.keep K127 (ninS ne142 nin0)
  have ne143 : a101 ≠ a127 := Nat.ne_of_lt (Nat.lt_of_lt_of_le f140.lt (G127_0))
  have ne144 : a101 ≠ a127_1 := Nat.ne_of_lt (Nat.lt_of_lt_of_le f140.lt (G127_1))
  have ne145 : a119 ≠ a127 := Nat.ne_of_lt (Nat.lt_of_lt_of_le A119.lt (G127_0))
  have ne146 : a119 ≠ a127_1 := Nat.ne_of_lt (Nat.lt_of_lt_of_le A119.lt (G127_1))
  have z147 : n0 ≤ T127.heap.size := Nat.le_trans z128 K127.1
  refine Go.virtual X127 hx hZ (y := (⟨"com/example/ratewright/ratewright/inference/RunningVariance", "add", "([D)V"⟩ : MethodName)) hown (word hw 15 rfl) (word hw 16 rfl) (word hw 18 rfl) (word hw 17 rfl) (word hw 19 rfl) (word hw 4 rfl) (by decide) (rm_add l Z a0 hw a119 a101 a127 a127_1 kk127_2 kk127_3 kk101 (0 : Int32) (1 : Int32) (0 : UInt64) (0 : UInt64) (0 : UInt64) (0 : UInt64) u58 u63 T127.heap n0 z147 P127_0 P127_1 P127_2 P127_3 P127_4 P127_5 f141 r123 r129 r130 R127_0 (Ne.symm ne143) (Ne.symm ne144) ne145 ne146 (Ne.symm ne142) (⟨A.1, B.1⟩) (by decide)) rfl P127_0  (argsL := [(.ref a101)]) (rest := []) (W := 0) (Jvm.hb hby at_185) rfl rfl (lenOf (pd1) rfl) (by rw [hml]; rfl) (Nat.le_of_eq rfl) (by decide) (by decide) (by decide) (by decide) (q := 188) rfl ?_
  intro T131 L131 w131 X131 hQ131
  obtain ⟨rfl, M131, K131, P131_0, P131_1, P131_2, P131_3, P131_4, P131_5⟩ := hQ131
  have N131 := Fr.app N127 M131
  show Go p e below _ (T131.setTop (mkF m 188 #[.val (.int q1), .val (.int q2), .val (.int q3), .val (.int q4), .val (.int q5), .val (.int q6), .val (.int u6), .val (.int u15), .val (.int u24), .val (.int u33), .val (.int u43), .val (.int u53), .val (.double u58), .second, .val (.double u63), .second, .val (.double u71), .second, .val (.double u79), .second, .val (.double u98), .second, .val (.double u117), .second, .val (.ref a101), .val (.ref a105), .val (.ref a112), .val (.ref a119), .unset, .unset, .unset] []))
  refine Go.aload X131.here hx (Jvm.hb hby at_188) rfl rfl (q := 190) rfl ?_
  have z149 : n0 ≤ T131.heap.size := Nat.le_trans z147 K131.1
  refine Go.virtual X131 hx hZ (y := (⟨"com/example/ratewright/ratewright/inference/RunningVariance", "count", "()I"⟩ : MethodName)) hown (word hw 22 rfl) (word hw 23 rfl) (word hw 25 rfl) (word hw 24 rfl) (word hw 26 rfl) (word hw 4 rfl) (by decide) (rm_count l Z a0 hw a119 (1 : Int32) T131.heap n0 z149 P131_3) rfl P131_0  (argsL := []) (rest := []) (W := 0) (Jvm.hb hby at_190) rfl rfl (lenOf (pd2) rfl) (by rw [hml]; rfl) (Nat.le_of_eq rfl) (by decide) (by decide) (by decide) (by decide) (q := 193) rfl ?_
  intro T148 L148 w148 X148 hQ148
  obtain ⟨rfl, M148, q148⟩ := hQ148
  have N148 := Fr.app N131 M148
  show Go p e below _ (T148.setTop (mkF m 193 #[.val (.int q1), .val (.int q2), .val (.int q3), .val (.int q4), .val (.int q5), .val (.int q6), .val (.int u6), .val (.int u15), .val (.int u24), .val (.int u33), .val (.int u43), .val (.int u53), .val (.double u58), .second, .val (.double u63), .second, .val (.double u71), .second, .val (.double u79), .second, .val (.double u98), .second, .val (.double u117), .second, .val (.ref a101), .val (.ref a105), .val (.ref a112), .val (.ref a119), .unset, .unset, .unset] [(.int (1 : Int32))]))
  refine Go.iconst X148.here hx (Jvm.hb hby at_193) (v := (1 : Int32)) rfl (q := 194) rfl ?_
  have hc194_151 : (1 : Int32) = (1 : Int32) := by decide
  refine Go.icmpN X148.here hx (Jvm.hb hby at_194) (teq hc194_151).2 (q := 197) rfl ?_
  refine Go.iconst X148.here hx (Jvm.hb hby at_197) (v := (1 : Int32)) rfl (q := 198) rfl ?_
  refine Go.goto X148.here hx (Jvm.hb hby at_198) (by decide) (q := 202) rfl ?_
  refine Go.istore X148.here hx (Jvm.hb hby at_202) (l2 := #[.val (.int q1), .val (.int q2), .val (.int q3), .val (.int q4), .val (.int q5), .val (.int q6), .val (.int u6), .val (.int u15), .val (.int u24), .val (.int u33), .val (.int u43), .val (.int u53), .val (.double u58), .second, .val (.double u63), .second, .val (.double u71), .second, .val (.double u79), .second, .val (.double u98), .second, .val (.double u117), .second, .val (.ref a101), .val (.ref a105), .val (.ref a112), .val (.ref a119), .val (.int (1 : Int32)), .unset, .unset]) rfl (q := 204) rfl ?_
  refine Go.aload X148.here hx (Jvm.hb hby at_204) rfl rfl (q := 206) rfl ?_
  refine Go.aload X148.here hx (Jvm.hb hby at_206) rfl rfl (q := 208) rfl ?_
  have f153 := R111.ext E112
  have ne155 : a105 ≠ a112 := Nat.ne_of_lt (Nat.lt_of_lt_of_le R111.lt (Nat.le_of_eq g112.symm))
  have f154 := f153.other W117 ne155
  have f156 := f154.other W118 ne155
  have f157 := f156.ext E119
  have ne159 : a105 ≠ a119 := Nat.ne_of_lt (Nat.lt_of_lt_of_le f156.lt (Nat.le_of_eq g119.symm))
  have f158 := f157.keep K127 (ninS ne159 nin0)
  have ne161 : a105 ≠ a127_1 := Nat.ne_of_lt (Nat.lt_of_lt_of_le f157.lt (G127_1))
  have ne162 : a105 ≠ a127 := Nat.ne_of_lt (Nat.lt_of_lt_of_le f157.lt (G127_0))
  have f160 := f158.keep K131 (ninS ne159 (ninS ne162 (ninS ne161 nin0)))
  refine Go.virtual X148 hx hZ (y := (⟨"com/example/ratewright/ratewright/inference/RunningVariance", "add", "([D)V"⟩ : MethodName)) hown (word hw 15 rfl) (word hw 16 rfl) (word hw 18 rfl) (word hw 17 rfl) (word hw 19 rfl) (word hw 4 rfl) (by decide) (rm_add l Z a0 hw a119 a105 a127 a127_1 kk127_2 kk127_3 kk105 (1 : Int32) (2 : Int32) (own_m (0 : Int32) u58 (0 : UInt64)) (own_m (0 : Int32) u63 (0 : UInt64)) (own_s (0 : Int32) u58 (0 : UInt64) (0 : UInt64)) (own_s (0 : Int32) u63 (0 : UInt64) (0 : UInt64)) u71 u79 T131.heap n0 z149 P131_0 P131_1 P131_2 P131_3 P131_4 P131_5 f160 r123 r129 r130 R127_0 (Ne.symm ne162) (Ne.symm ne161) ne145 ne146 (Ne.symm ne159) (⟨A.2.1, B.2.1⟩) (by decide)) q148 P131_0  (argsL := [(.ref a105)]) (rest := []) (W := 0) (Jvm.hb hby at_208) rfl rfl (lenOf (pd1) rfl) (by rw [hml]; rfl) (Nat.le_of_eq rfl) (by decide) (by decide) (by decide) (by decide) (q := 211) rfl ?_
  intro T152 L152 w152 X152 hQ152
  obtain ⟨rfl, M152, K152, P152_0, P152_1, P152_2, P152_3, P152_4, P152_5⟩ := hQ152
  have N152 := Fr.app N148 M152
  show Go p e below _ (T152.setTop (mkF m 211 #[.val (.int q1), .val (.int q2), .val (.int q3), .val (.int q4), .val (.int q5), .val (.int q6), .val (.int u6), .val (.int u15), .val (.int u24), .val (.int u33), .val (.int u43), .val (.int u53), .val (.double u58), .second, .val (.double u63), .second, .val (.double u71), .second, .val (.double u79), .second, .val (.double u98), .second, .val (.double u117), .second, .val (.ref a101), .val (.ref a105), .val (.ref a112), .val (.ref a119), .val (.int (1 : Int32)), .unset, .unset] []))
  refine Go.iload X152.here hx (Jvm.hb hby at_211) rfl (q := 213) rfl ?_
  have hc213_164 : ¬ ((1 : Int32) = (0 : Int32)) := by decide
  refine Go.ifN X152.here hx (Jvm.hb hby at_213) ((if0 _ _).trans (feq hc213_164).1) (q := 216) rfl ?_
  refine Go.aload X152.here hx (Jvm.hb hby at_216) rfl rfl (q := 218) rfl ?_
  have z166 : n0 ≤ T152.heap.size := Nat.le_trans z149 K152.1
  refine Go.virtual X152 hx hZ (y := (⟨"com/example/ratewright/ratewright/inference/RunningVariance", "count", "()I"⟩ : MethodName)) hown (word hw 22 rfl) (word hw 23 rfl) (word hw 25 rfl) (word hw 24 rfl) (word hw 26 rfl) (word hw 4 rfl) (by decide) (rm_count l Z a0 hw a119 (2 : Int32) T152.heap n0 z166 P152_3) rfl P152_0  (argsL := []) (rest := []) (W := 0) (Jvm.hb hby at_218) rfl rfl (lenOf (pd2) rfl) (by rw [hml]; rfl) (Nat.le_of_eq rfl) (by decide) (by decide) (by decide) (by decide) (q := 221) rfl ?_
  intro T165 L165 w165 X165 hQ165
  obtain ⟨rfl, M165, q165⟩ := hQ165
  have N165 := Fr.app N152 M165
  show Go p e below _ (T165.setTop (mkF m 221 #[.val (.int q1), .val (.int q2), .val (.int q3), .val (.int q4), .val (.int q5), .val (.int q6), .val (.int u6), .val (.int u15), .val (.int u24), .val (.int u33), .val (.int u43), .val (.int u53), .val (.double u58), .second, .val (.double u63), .second, .val (.double u71), .second, .val (.double u79), .second, .val (.double u98), .second, .val (.double u117), .second, .val (.ref a101), .val (.ref a105), .val (.ref a112), .val (.ref a119), .val (.int (1 : Int32)), .unset, .unset] [(.int (2 : Int32))]))
  refine Go.iconst X165.here hx (Jvm.hb hby at_221) (v := (2 : Int32)) rfl (q := 222) rfl ?_
  have hc222_168 : (2 : Int32) = (2 : Int32) := by decide
  refine Go.icmpN X165.here hx (Jvm.hb hby at_222) (teq hc222_168).2 (q := 225) rfl ?_
  refine Go.iconst X165.here hx (Jvm.hb hby at_225) (v := (1 : Int32)) rfl (q := 226) rfl ?_
  refine Go.goto X165.here hx (Jvm.hb hby at_226) (by decide) (q := 230) rfl ?_
  refine Go.istore X165.here hx (Jvm.hb hby at_230) (l2 := #[.val (.int q1), .val (.int q2), .val (.int q3), .val (.int q4), .val (.int q5), .val (.int q6), .val (.int u6), .val (.int u15), .val (.int u24), .val (.int u33), .val (.int u43), .val (.int u53), .val (.double u58), .second, .val (.double u63), .second, .val (.double u71), .second, .val (.double u79), .second, .val (.double u98), .second, .val (.double u117), .second, .val (.ref a101), .val (.ref a105), .val (.ref a112), .val (.ref a119), .val (.int (1 : Int32)), .unset, .unset]) rfl (q := 232) rfl ?_
  refine Go.aload X165.here hx (Jvm.hb hby at_232) rfl rfl (q := 234) rfl ?_
  refine Go.virtual X165 hx hZ (y := (⟨"com/example/ratewright/ratewright/inference/RunningVariance", "variances", "()[D"⟩ : MethodName)) hown (word hw 27 rfl) (word hw 28 rfl) (word hw 30 rfl) (word hw 29 rfl) (word hw 31 rfl) (word hw 4 rfl) (by decide) (rm_var l Z a0 hw a119 a127 a127_1 kk127_2 kk127_3 (2 : Int32) (own_m (1 : Int32) u71 (own_m (0 : Int32) u58 (0 : UInt64))) (own_m (1 : Int32) u79 (own_m (0 : Int32) u63 (0 : UInt64))) (own_s (1 : Int32) u71 (own_m (0 : Int32) u58 (0 : UInt64)) (own_s (0 : Int32) u58 (0 : UInt64) (0 : UInt64))) (own_s (1 : Int32) u79 (own_m (0 : Int32) u63 (0 : UInt64)) (own_s (0 : Int32) u63 (0 : UInt64) (0 : UInt64))) T152.heap n0 z166 P152_1 P152_2 P152_3 P152_4 P152_5 (by decide) (⟨(own_var2 (own_rng hu12 hu15) A.2.2.2.1 rfl).1, (own_var2 (own_rng hu40 hu43) B.2.2.2.1 rfl).1⟩)) q165 P152_0  (argsL := []) (rest := []) (W := 0) (Jvm.hb hby at_234) rfl rfl (lenOf (pd3) rfl) (by rw [hml]; rfl) (Nat.le_of_eq rfl) (by decide) (by decide) (by decide) (by decide) (q := 237) rfl ?_
  intro T169 L169 w169 X169 hQ169
  obtain ⟨a169, kk169_1, rfl, M169, K169, G169_0, P169_0⟩ := hQ169
  have N169 := Fr.app N165 M169
  have r170 : n0 ≤ a169 := Nat.le_trans z166 (G169_0)
  show Go p e below _ (T169.setTop (mkF m 237 #[.val (.int q1), .val (.int q2), .val (.int q3), .val (.int q4), .val (.int q5), .val (.int q6), .val (.int u6), .val (.int u15), .val (.int u24), .val (.int u33), .val (.int u43), .val (.int u53), .val (.double u58), .second, .val (.double u63), .second, .val (.double u71), .second, .val (.double u79), .second, .val (.double u98), .second, .val (.double u117), .second, .val (.ref a101), .val (.ref a105), .val (.ref a112), .val (.ref a119), .val (.int (1 : Int32)), .unset, .unset] [(.ref a169)]))
  refine Go.astore X169.here hx (Jvm.hb hby at_237) rfl (l2 := #[.val (.int q1), .val (.int q2), .val (.int q3), .val (.int q4), .val (.int q5), .val (.int q6), .val (.int u6), .val (.int u15), .val (.int u24), .val (.int u33), .val (.int u43), .val (.int u53), .val (.double u58), .second, .val (.double u63), .second, .val (.double u71), .second, .val (.double u79), .second, .val (.double u98), .second, .val (.double u117), .second, .val (.ref a101), .val (.ref a105), .val (.ref a112), .val (.ref a119), .val (.int (1 : Int32)), .val (.ref a169), .unset]) rfl (q := 239) rfl ?_
  refine Go.iload X169.here hx (Jvm.hb hby at_239) rfl (q := 241) rfl ?_
  have hc241_172 : ¬ ((1 : Int32) = (0 : Int32)) := by decide
  refine Go.ifN X169.here hx (Jvm.hb hby at_241) ((if0 _ _).trans (feq hc241_172).1) (q := 244) rfl ?_
  refine Go.aload X169.here hx (Jvm.hb hby at_244) rfl rfl (q := 246) rfl ?_
  refine Go.alen X169 hx hZ rfl P169_0 (Jvm.hb hby at_246) (n := (2 : Int32)) (by first | rfl | decide) (q := 247) rfl ?_
  refine Go.iconst X169.here hx (Jvm.hb hby at_247) (v := (2 : Int32)) rfl (q := 248) rfl ?_
  have hc248_174 : (2 : Int32) = (2 : Int32) := by decide
  refine Go.icmpN X169.here hx (Jvm.hb hby at_248) (teq hc248_174).2 (q := 251) rfl ?_
  refine Go.aload X169.here hx (Jvm.hb hby at_251) rfl rfl (q := 253) rfl ?_
  refine Go.iconst X169.here hx (Jvm.hb hby at_253) (v := (0 : Int32)) rfl (q := 254) rfl ?_
  refine Go.daload X169 hx hZ rfl P169_0 (Jvm.hb hby at_254) (i := 0) (by decide) (by decide) rfl (q := 255) rfl ?_
  refine Go.iload X169.here hx (Jvm.hb hby at_255) rfl (q := 257) rfl ?_
  obtain ⟨u257, hu257⟩ : ∃ zq, Int32.toInt64 u15 = zq := ⟨_, rfl⟩
  refine Go.i2l X169.here hx (Jvm.hb hby at_257) hu257 (q := 258) rfl ?_
  have z176 : n0 ≤ T169.heap.size := Nat.le_trans z166 K169.1
  refine Go.static X169 hx hZ (y := (⟨"com/example/ratewright/ratewright/inference/RunningVarianceAddPinLaw", "ref2", "(J)D"⟩ : MethodName)) hown (word hw 32 rfl) (word hw 33 rfl) (word hw 35 rfl) (word hw 34 rfl) (by decide) (rm_ref2 l Z a0 hw u257 T169.heap n0 z176 ) rfl  (argsL := [(.long u257)]) (rest := [(.double (FP.ddiv (own_s (1 : Int32) u71 (own_m (0 : Int32) u58 (0 : UInt64)) (own_s (0 : Int32) u58 (0 : UInt64) (0 : UInt64))) (FP.i2d ((2 : Int32) - 1))))]) (W := 2) (Jvm.hb hby at_258) rfl rfl (lenOf (pd4) rfl) (by rw [hml]; rfl) (Nat.le_of_eq rfl) (by decide) (by decide) (by decide) (by decide) (q := 261) rfl ?_
  intro T175 L175 w175 X175 hQ175
  obtain ⟨rfl, M175, q175⟩ := hQ175
  have N175 := Fr.app N169 M175
  show Go p e below _ (T175.setTop (mkF m 261 #[.val (.int q1), .val (.int q2), .val (.int q3), .val (.int q4), .val (.int q5), .val (.int q6), .val (.int u6), .val (.int u15), .val (.int u24), .val (.int u33), .val (.int u43), .val (.int u53), .val (.double u58), .second, .val (.double u63), .second, .val (.double u71), .second, .val (.double u79), .second, .val (.double u98), .second, .val (.double u117), .second, .val (.ref a101), .val (.ref a105), .val (.ref a112), .val (.ref a119), .val (.int (1 : Int32)), .val (.ref a169), .unset] [(.double (own_ref2 u257)), (.double (FP.ddiv (own_s (1 : Int32) u71 (own_m (0 : Int32) u58 (0 : UInt64)) (own_s (0 : Int32) u58 (0 : UInt64) (0 : UInt64))) (FP.i2d ((2 : Int32) - 1))))]))
  obtain ⟨u261, hu261⟩ : ∃ zq, cmpValue (FP.dcmp (FP.ddiv (own_s (1 : Int32) u71 (own_m (0 : Int32) u58 (0 : UInt64)) (own_s (0 : Int32) u58 (0 : UInt64) (0 : UInt64))) (FP.i2d ((2 : Int32) - 1))) (own_ref2 u257)) .l = zq := ⟨_, rfl⟩
  refine Go.dcmp X175.here hx (Jvm.hb hby at_261) hu261 (q := 262) rfl ?_
  have hc262 : u261 = (0 : Int32) := by rw [← hu261]; exact (own_var2 (own_rng hu12 hu15) A.2.2.2.1 hu257).2 _
  refine Go.ifN X175.here hx (Jvm.hb hby at_262) ((if0 _ _).trans (teq hc262).2) (q := 265) rfl ?_
  refine Go.aload X175.here hx (Jvm.hb hby at_265) rfl rfl (q := 267) rfl ?_
  refine Go.iconst X175.here hx (Jvm.hb hby at_267) (v := (1 : Int32)) rfl (q := 268) rfl ?_
  refine Go.daload X175 hx hZ q175 P169_0 (Jvm.hb hby at_268) (i := 1) (by decide) (by decide) rfl (q := 269) rfl ?_
  refine Go.iload X175.here hx (Jvm.hb hby at_269) rfl (q := 271) rfl ?_
  obtain ⟨u271, hu271⟩ : ∃ zq, Int32.toInt64 u43 = zq := ⟨_, rfl⟩
  refine Go.i2l X175.here hx (Jvm.hb hby at_271) hu271 (q := 272) rfl ?_
  refine Go.static X175 hx hZ (y := (⟨"com/example/ratewright/ratewright/inference/RunningVarianceAddPinLaw", "ref2", "(J)D"⟩ : MethodName)) hown (word hw 32 rfl) (word hw 33 rfl) (word hw 35 rfl) (word hw 34 rfl) (by decide) (rm_ref2 l Z a0 hw u271 T169.heap n0 z176 ) q175  (argsL := [(.long u271)]) (rest := [(.double (FP.ddiv (own_s (1 : Int32) u79 (own_m (0 : Int32) u63 (0 : UInt64)) (own_s (0 : Int32) u63 (0 : UInt64) (0 : UInt64))) (FP.i2d ((2 : Int32) - 1))))]) (W := 2) (Jvm.hb hby at_272) rfl rfl (lenOf (pd4) rfl) (by rw [hml]; rfl) (Nat.le_of_eq rfl) (by decide) (by decide) (by decide) (by decide) (q := 275) rfl ?_
  intro T178 L178 w178 X178 hQ178
  obtain ⟨rfl, M178, q178⟩ := hQ178
  have N178 := Fr.app N175 M178
  show Go p e below _ (T178.setTop (mkF m 275 #[.val (.int q1), .val (.int q2), .val (.int q3), .val (.int q4), .val (.int q5), .val (.int q6), .val (.int u6), .val (.int u15), .val (.int u24), .val (.int u33), .val (.int u43), .val (.int u53), .val (.double u58), .second, .val (.double u63), .second, .val (.double u71), .second, .val (.double u79), .second, .val (.double u98), .second, .val (.double u117), .second, .val (.ref a101), .val (.ref a105), .val (.ref a112), .val (.ref a119), .val (.int (1 : Int32)), .val (.ref a169), .unset] [(.double (own_ref2 u271)), (.double (FP.ddiv (own_s (1 : Int32) u79 (own_m (0 : Int32) u63 (0 : UInt64)) (own_s (0 : Int32) u63 (0 : UInt64) (0 : UInt64))) (FP.i2d ((2 : Int32) - 1))))]))
  obtain ⟨u275, hu275⟩ : ∃ zq, cmpValue (FP.dcmp (FP.ddiv (own_s (1 : Int32) u79 (own_m (0 : Int32) u63 (0 : UInt64)) (own_s (0 : Int32) u63 (0 : UInt64) (0 : UInt64))) (FP.i2d ((2 : Int32) - 1))) (own_ref2 u271)) .l = zq := ⟨_, rfl⟩
  refine Go.dcmp X178.here hx (Jvm.hb hby at_275) hu275 (q := 276) rfl ?_
  have hc276 : u275 = (0 : Int32) := by rw [← hu275]; exact (own_var2 (own_rng hu40 hu43) B.2.2.2.1 hu271).2 _
  refine Go.ifN X178.here hx (Jvm.hb hby at_276) ((if0 _ _).trans (teq hc276).2) (q := 279) rfl ?_
  refine Go.iconst X178.here hx (Jvm.hb hby at_279) (v := (1 : Int32)) rfl (q := 280) rfl ?_
  refine Go.goto X178.here hx (Jvm.hb hby at_280) (by decide) (q := 284) rfl ?_
  refine Go.istore X178.here hx (Jvm.hb hby at_284) (l2 := #[.val (.int q1), .val (.int q2), .val (.int q3), .val (.int q4), .val (.int q5), .val (.int q6), .val (.int u6), .val (.int u15), .val (.int u24), .val (.int u33), .val (.int u43), .val (.int u53), .val (.double u58), .second, .val (.double u63), .second, .val (.double u71), .second, .val (.double u79), .second, .val (.double u98), .second, .val (.double u117), .second, .val (.ref a101), .val (.ref a105), .val (.ref a112), .val (.ref a119), .val (.int (1 : Int32)), .val (.ref a169), .unset]) rfl (q := 286) rfl ?_
  refine Go.aload X178.here hx (Jvm.hb hby at_286) rfl rfl (q := 288) rfl ?_
  refine Go.aload X178.here hx (Jvm.hb hby at_288) rfl rfl (q := 290) rfl ?_
  have f181 := P152_0.keep K169
  have f182 := P152_1.keep K169 (by simp)
  have f183 := P152_2.keep K169 (by simp)
  have f184 := P152_3.keep K169 (by simp)
  have f185 := P152_4.keep K169 (by simp)
  have f186 := P152_5.keep K169 (by simp)
  have f187 := R118.ext E119
  have ne189 : a112 ≠ a119 := Nat.ne_of_lt (Nat.lt_of_lt_of_le R118.lt (Nat.le_of_eq g119.symm))
  have f188 := f187.keep K127 (ninS ne189 nin0)
  have ne191 : a112 ≠ a127_1 := Nat.ne_of_lt (Nat.lt_of_lt_of_le f187.lt (G127_1))
  have ne192 : a112 ≠ a127 := Nat.ne_of_lt (Nat.lt_of_lt_of_le f187.lt (G127_0))
  have f190 := f188.keep K131 (ninS ne189 (ninS ne192 (ninS ne191 nin0)))
  have f193 := f190.keep K152 (ninS ne189 (ninS ne192 (ninS ne191 nin0)))
  have f194 := f193.keep K169 (by simp)
  refine Go.virtual X178 hx hZ (y := (⟨"com/example/ratewright/ratewright/inference/RunningVariance", "add", "([D)V"⟩ : MethodName)) hown (word hw 15 rfl) (word hw 16 rfl) (word hw 18 rfl) (word hw 17 rfl) (word hw 19 rfl) (word hw 4 rfl) (by decide) (rm_add l Z a0 hw a119 a112 a127 a127_1 kk127_2 kk127_3 kk112 (2 : Int32) (3 : Int32) (own_m (1 : Int32) u71 (own_m (0 : Int32) u58 (0 : UInt64))) (own_m (1 : Int32) u79 (own_m (0 : Int32) u63 (0 : UInt64))) (own_s (1 : Int32) u71 (own_m (0 : Int32) u58 (0 : UInt64)) (own_s (0 : Int32) u58 (0 : UInt64) (0 : UInt64))) (own_s (1 : Int32) u79 (own_m (0 : Int32) u63 (0 : UInt64)) (own_s (0 : Int32) u63 (0 : UInt64) (0 : UInt64))) u98 u117 T169.heap n0 z176 f181 f182 f183 f184 f185 f186 f194 r123 r129 r130 R127_0 (Ne.symm ne192) (Ne.symm ne191) ne145 ne146 (Ne.symm ne189) (⟨A.2.2.1, B.2.2.1⟩) (by decide)) q178 f181  (argsL := [(.ref a112)]) (rest := []) (W := 0) (Jvm.hb hby at_290) rfl rfl (lenOf (pd1) rfl) (by rw [hml]; rfl) (Nat.le_of_eq rfl) (by decide) (by decide) (by decide) (by decide) (q := 293) rfl ?_
  intro T180 L180 w180 X180 hQ180
  obtain ⟨rfl, M180, K180, P180_0, P180_1, P180_2, P180_3, P180_4, P180_5⟩ := hQ180
  have N180 := Fr.app N178 M180
  show Go p e below _ (T180.setTop (mkF m 293 #[.val (.int q1), .val (.int q2), .val (.int q3), .val (.int q4), .val (.int q5), .val (.int q6), .val (.int u6), .val (.int u15), .val (.int u24), .val (.int u33), .val (.int u43), .val (.int u53), .val (.double u58), .second, .val (.double u63), .second, .val (.double u71), .second, .val (.double u79), .second, .val (.double u98), .second, .val (.double u117), .second, .val (.ref a101), .val (.ref a105), .val (.ref a112), .val (.ref a119), .val (.int (1 : Int32)), .val (.ref a169), .unset] []))
  refine Go.iload X180.here hx (Jvm.hb hby at_293) rfl (q := 295) rfl ?_
  have hc295_196 : ¬ ((1 : Int32) = (0 : Int32)) := by decide
  refine Go.ifN X180.here hx (Jvm.hb hby at_295) ((if0 _ _).trans (feq hc295_196).1) (q := 298) rfl ?_
  refine Go.aload X180.here hx (Jvm.hb hby at_298) rfl rfl (q := 300) rfl ?_
  have z198 : n0 ≤ T180.heap.size := Nat.le_trans z176 K180.1
  refine Go.virtual X180 hx hZ (y := (⟨"com/example/ratewright/ratewright/inference/RunningVariance", "count", "()I"⟩ : MethodName)) hown (word hw 22 rfl) (word hw 23 rfl) (word hw 25 rfl) (word hw 24 rfl) (word hw 26 rfl) (word hw 4 rfl) (by decide) (rm_count l Z a0 hw a119 (3 : Int32) T180.heap n0 z198 P180_3) rfl P180_0  (argsL := []) (rest := []) (W := 0) (Jvm.hb hby at_300) rfl rfl (lenOf (pd2) rfl) (by rw [hml]; rfl) (Nat.le_of_eq rfl) (by decide) (by decide) (by decide) (by decide) (q := 303) rfl ?_
  intro T197 L197 w197 X197 hQ197
  obtain ⟨rfl, M197, q197⟩ := hQ197
  have N197 := Fr.app N180 M197
  show Go p e below _ (T197.setTop (mkF m 303 #[.val (.int q1), .val (.int q2), .val (.int q3), .val (.int q4), .val (.int q5), .val (.int q6), .val (.int u6), .val (.int u15), .val (.int u24), .val (.int u33), .val (.int u43), .val (.int u53), .val (.double u58), .second, .val (.double u63), .second, .val (.double u71), .second, .val (.double u79), .second, .val (.double u98), .second, .val (.double u117), .second, .val (.ref a101), .val (.ref a105), .val (.ref a112), .val (.ref a119), .val (.int (1 : Int32)), .val (.ref a169), .unset] [(.int (3 : Int32))]))
  refine Go.iconst X197.here hx (Jvm.hb hby at_303) (v := (3 : Int32)) rfl (q := 304) rfl ?_
  have hc304_200 : (3 : Int32) = (3 : Int32) := by decide
  refine Go.icmpN X197.here hx (Jvm.hb hby at_304) (teq hc304_200).2 (q := 307) rfl ?_
  refine Go.iconst X197.here hx (Jvm.hb hby at_307) (v := (1 : Int32)) rfl (q := 308) rfl ?_
  refine Go.goto X197.here hx (Jvm.hb hby at_308) (by decide) (q := 312) rfl ?_
  refine Go.istore X197.here hx (Jvm.hb hby at_312) (l2 := #[.val (.int q1), .val (.int q2), .val (.int q3), .val (.int q4), .val (.int q5), .val (.int q6), .val (.int u6), .val (.int u15), .val (.int u24), .val (.int u33), .val (.int u43), .val (.int u53), .val (.double u58), .second, .val (.double u63), .second, .val (.double u71), .second, .val (.double u79), .second, .val (.double u98), .second, .val (.double u117), .second, .val (.ref a101), .val (.ref a105), .val (.ref a112), .val (.ref a119), .val (.int (1 : Int32)), .val (.ref a169), .unset]) rfl (q := 314) rfl ?_
  refine Go.aload X197.here hx (Jvm.hb hby at_314) rfl rfl (q := 316) rfl ?_
  refine Go.virtual X197 hx hZ (y := (⟨"com/example/ratewright/ratewright/inference/RunningVariance", "variances", "()[D"⟩ : MethodName)) hown (word hw 27 rfl) (word hw 28 rfl) (word hw 30 rfl) (word hw 29 rfl) (word hw 31 rfl) (word hw 4 rfl) (by decide) (rm_var l Z a0 hw a119 a127 a127_1 kk127_2 kk127_3 (3 : Int32) (own_m (2 : Int32) u98 (own_m (1 : Int32) u71 (own_m (0 : Int32) u58 (0 : UInt64)))) (own_m (2 : Int32) u117 (own_m (1 : Int32) u79 (own_m (0 : Int32) u63 (0 : UInt64)))) (own_s (2 : Int32) u98 (own_m (1 : Int32) u71 (own_m (0 : Int32) u58 (0 : UInt64))) (own_s (1 : Int32) u71 (own_m (0 : Int32) u58 (0 : UInt64)) (own_s (0 : Int32) u58 (0 : UInt64) (0 : UInt64)))) (own_s (2 : Int32) u117 (own_m (1 : Int32) u79 (own_m (0 : Int32) u63 (0 : UInt64))) (own_s (1 : Int32) u79 (own_m (0 : Int32) u63 (0 : UInt64)) (own_s (0 : Int32) u63 (0 : UInt64) (0 : UInt64)))) T180.heap n0 z198 P180_1 P180_2 P180_3 P180_4 P180_5 (by decide) (⟨(own_var3 (own_rng hu12 hu15) (own_rng hu21 hu24) A.2.2.2.2.1 rfl rfl).1, (own_var3 (own_rng hu40 hu43) (own_rng hu50 hu53) B.2.2.2.2.1 rfl rfl).1⟩)) q197 P180_0  (argsL := []) (rest := []) (W := 0) (Jvm.hb hby at_316) rfl rfl (lenOf (pd3) rfl) (by rw [hml]; rfl) (Nat.le_of_eq rfl) (by decide) (by decide) (by decide) (by decide) (q := 319) rfl ?_
  intro T201 L201 w201 X201 hQ201
  obtain ⟨a201, kk201_1, rfl, M201, K201, G201_0, P201_0⟩ := hQ201
  have N201 := Fr.app N197 M201
  have r202 : n0 ≤ a201 := Nat.le_trans z198 (G201_0)
  show Go p e below _ (T201.setTop (mkF m 319 #[.val (.int q1), .val (.int q2), .val (.int q3), .val (.int q4), .val (.int q5), .val (.int q6), .val (.int u6), .val (.int u15), .val (.int u24), .val (.int u33), .val (.int u43), .val (.int u53), .val (.double u58), .second, .val (.double u63), .second, .val (.double u71), .second, .val (.double u79), .second, .val (.double u98), .second, .val (.double u117), .second, .val (.ref a101), .val (.ref a105), .val (.ref a112), .val (.ref a119), .val (.int (1 : Int32)), .val (.ref a169), .unset] [(.ref a201)]))
  refine Go.astore X201.here hx (Jvm.hb hby at_319) rfl (l2 := #[.val (.int q1), .val (.int q2), .val (.int q3), .val (.int q4), .val (.int q5), .val (.int q6), .val (.int u6), .val (.int u15), .val (.int u24), .val (.int u33), .val (.int u43), .val (.int u53), .val (.double u58), .second, .val (.double u63), .second, .val (.double u71), .second, .val (.double u79), .second, .val (.double u98), .second, .val (.double u117), .second, .val (.ref a101), .val (.ref a105), .val (.ref a112), .val (.ref a119), .val (.int (1 : Int32)), .val (.ref a169), .val (.ref a201)]) rfl (q := 321) rfl ?_
  refine Go.iload X201.here hx (Jvm.hb hby at_321) rfl (q := 323) rfl ?_
  have hc323_204 : ¬ ((1 : Int32) = (0 : Int32)) := by decide
  refine Go.ifN X201.here hx (Jvm.hb hby at_323) ((if0 _ _).trans (feq hc323_204).1) (q := 326) rfl ?_
  refine Go.aload X201.here hx (Jvm.hb hby at_326) rfl rfl (q := 328) rfl ?_
  refine Go.alen X201 hx hZ rfl P201_0 (Jvm.hb hby at_328) (n := (2 : Int32)) (by first | rfl | decide) (q := 329) rfl ?_
  refine Go.iconst X201.here hx (Jvm.hb hby at_329) (v := (2 : Int32)) rfl (q := 330) rfl ?_
  have hc330_206 : (2 : Int32) = (2 : Int32) := by decide
  refine Go.icmpN X201.here hx (Jvm.hb hby at_330) (teq hc330_206).2 (q := 333) rfl ?_
  refine Go.aload X201.here hx (Jvm.hb hby at_333) rfl rfl (q := 335) rfl ?_
  refine Go.iconst X201.here hx (Jvm.hb hby at_335) (v := (0 : Int32)) rfl (q := 336) rfl ?_
  refine Go.daload X201 hx hZ rfl P201_0 (Jvm.hb hby at_336) (i := 0) (by decide) (by decide) rfl (q := 337) rfl ?_
  refine Go.iload X201.here hx (Jvm.hb hby at_337) rfl (q := 339) rfl ?_
  obtain ⟨u339, hu339⟩ : ∃ zq, Int32.toInt64 u15 = zq := ⟨_, rfl⟩
  refine Go.i2l X201.here hx (Jvm.hb hby at_339) hu339 (q := 340) rfl ?_
  refine Go.iload X201.here hx (Jvm.hb hby at_340) rfl (q := 342) rfl ?_
  obtain ⟨u342, hu342⟩ : ∃ zq, Int32.toInt64 u24 = zq := ⟨_, rfl⟩
  refine Go.i2l X201.here hx (Jvm.hb hby at_342) hu342 (q := 343) rfl ?_
  have z208 : n0 ≤ T201.heap.size := Nat.le_trans z198 K201.1
  refine Go.static X201 hx hZ (y := (⟨"com/example/ratewright/ratewright/inference/RunningVarianceAddPinLaw", "ref3", "(JJ)D"⟩ : MethodName)) hown (word hw 36 rfl) (word hw 37 rfl) (word hw 38 rfl) (word hw 34 rfl) (by decide) (rm_ref3 l Z a0 hw u339 u342 T201.heap n0 z208 ) rfl  (argsL := [(.long u339), (.long u342)]) (rest := [(.double (FP.ddiv (own_s (2 : Int32) u98 (own_m (1 : Int32) u71 (own_m (0 : Int32) u58 (0 : UInt64))) (own_s (1 : Int32) u71 (own_m (0 : Int32) u58 (0 : UInt64)) (own_s (0 : Int32) u58 (0 : UInt64) (0 : UInt64)))) (FP.i2d ((3 : Int32) - 1))))]) (W := 2) (Jvm.hb hby at_343) rfl rfl (lenOf (pd5) rfl) (by rw [hml]; rfl) (Nat.le_of_eq rfl) (by decide) (by decide) (by decide) (by decide) (q := 346) rfl ?_
  intro T207 L207 w207 X207 hQ207
  obtain ⟨rfl, M207, q207⟩ := hQ207
  have N207 := Fr.app N201 M207
  show Go p e below _ (T207.setTop (mkF m 346 #[.val (.int q1), .val (.int q2), .val (.int q3), .val (.int q4), .val (.int q5), .val (.int q6), .val (.int u6), .val (.int u15), .val (.int u24), .val (.int u33), .val (.int u43), .val (.int u53), .val (.double u58), .second, .val (.double u63), .second, .val (.double u71), .second, .val (.double u79), .second, .val (.double u98), .second, .val (.double u117), .second, .val (.ref a101), .val (.ref a105), .val (.ref a112), .val (.ref a119), .val (.int (1 : Int32)), .val (.ref a169), .val (.ref a201)] [(.double (own_ref3 u339 u342)), (.double (FP.ddiv (own_s (2 : Int32) u98 (own_m (1 : Int32) u71 (own_m (0 : Int32) u58 (0 : UInt64))) (own_s (1 : Int32) u71 (own_m (0 : Int32) u58 (0 : UInt64)) (own_s (0 : Int32) u58 (0 : UInt64) (0 : UInt64)))) (FP.i2d ((3 : Int32) - 1))))]))
  obtain ⟨u346, hu346⟩ : ∃ zq, cmpValue (FP.dcmp (FP.ddiv (own_s (2 : Int32) u98 (own_m (1 : Int32) u71 (own_m (0 : Int32) u58 (0 : UInt64))) (own_s (1 : Int32) u71 (own_m (0 : Int32) u58 (0 : UInt64)) (own_s (0 : Int32) u58 (0 : UInt64) (0 : UInt64)))) (FP.i2d ((3 : Int32) - 1))) (own_ref3 u339 u342)) .l = zq := ⟨_, rfl⟩
  refine Go.dcmp X207.here hx (Jvm.hb hby at_346) hu346 (q := 347) rfl ?_
  have hc347 : u346 = (0 : Int32) := by rw [← hu346]; exact (own_var3 (own_rng hu12 hu15) (own_rng hu21 hu24) A.2.2.2.2.1 hu339 hu342).2 _
  refine Go.ifN X207.here hx (Jvm.hb hby at_347) ((if0 _ _).trans (teq hc347).2) (q := 350) rfl ?_
  refine Go.aload X207.here hx (Jvm.hb hby at_350) rfl rfl (q := 352) rfl ?_
  refine Go.iconst X207.here hx (Jvm.hb hby at_352) (v := (1 : Int32)) rfl (q := 353) rfl ?_
  refine Go.daload X207 hx hZ q207 P201_0 (Jvm.hb hby at_353) (i := 1) (by decide) (by decide) rfl (q := 354) rfl ?_
  refine Go.iload X207.here hx (Jvm.hb hby at_354) rfl (q := 356) rfl ?_
  obtain ⟨u356, hu356⟩ : ∃ zq, Int32.toInt64 u43 = zq := ⟨_, rfl⟩
  refine Go.i2l X207.here hx (Jvm.hb hby at_356) hu356 (q := 357) rfl ?_
  refine Go.iload X207.here hx (Jvm.hb hby at_357) rfl (q := 359) rfl ?_
  obtain ⟨u359, hu359⟩ : ∃ zq, Int32.toInt64 u53 = zq := ⟨_, rfl⟩
  refine Go.i2l X207.here hx (Jvm.hb hby at_359) hu359 (q := 360) rfl ?_
  refine Go.static X207 hx hZ (y := (⟨"com/example/ratewright/ratewright/inference/RunningVarianceAddPinLaw", "ref3", "(JJ)D"⟩ : MethodName)) hown (word hw 36 rfl) (word hw 37 rfl) (word hw 38 rfl) (word hw 34 rfl) (by decide) (rm_ref3 l Z a0 hw u356 u359 T201.heap n0 z208 ) q207  (argsL := [(.long u356), (.long u359)]) (rest := [(.double (FP.ddiv (own_s (2 : Int32) u117 (own_m (1 : Int32) u79 (own_m (0 : Int32) u63 (0 : UInt64))) (own_s (1 : Int32) u79 (own_m (0 : Int32) u63 (0 : UInt64)) (own_s (0 : Int32) u63 (0 : UInt64) (0 : UInt64)))) (FP.i2d ((3 : Int32) - 1))))]) (W := 2) (Jvm.hb hby at_360) rfl rfl (lenOf (pd5) rfl) (by rw [hml]; rfl) (Nat.le_of_eq rfl) (by decide) (by decide) (by decide) (by decide) (q := 363) rfl ?_
  intro T210 L210 w210 X210 hQ210
  obtain ⟨rfl, M210, q210⟩ := hQ210
  have N210 := Fr.app N207 M210
  show Go p e below _ (T210.setTop (mkF m 363 #[.val (.int q1), .val (.int q2), .val (.int q3), .val (.int q4), .val (.int q5), .val (.int q6), .val (.int u6), .val (.int u15), .val (.int u24), .val (.int u33), .val (.int u43), .val (.int u53), .val (.double u58), .second, .val (.double u63), .second, .val (.double u71), .second, .val (.double u79), .second, .val (.double u98), .second, .val (.double u117), .second, .val (.ref a101), .val (.ref a105), .val (.ref a112), .val (.ref a119), .val (.int (1 : Int32)), .val (.ref a169), .val (.ref a201)] [(.double (own_ref3 u356 u359)), (.double (FP.ddiv (own_s (2 : Int32) u117 (own_m (1 : Int32) u79 (own_m (0 : Int32) u63 (0 : UInt64))) (own_s (1 : Int32) u79 (own_m (0 : Int32) u63 (0 : UInt64)) (own_s (0 : Int32) u63 (0 : UInt64) (0 : UInt64)))) (FP.i2d ((3 : Int32) - 1))))]))
  obtain ⟨u363, hu363⟩ : ∃ zq, cmpValue (FP.dcmp (FP.ddiv (own_s (2 : Int32) u117 (own_m (1 : Int32) u79 (own_m (0 : Int32) u63 (0 : UInt64))) (own_s (1 : Int32) u79 (own_m (0 : Int32) u63 (0 : UInt64)) (own_s (0 : Int32) u63 (0 : UInt64) (0 : UInt64)))) (FP.i2d ((3 : Int32) - 1))) (own_ref3 u356 u359)) .l = zq := ⟨_, rfl⟩
  refine Go.dcmp X210.here hx (Jvm.hb hby at_363) hu363 (q := 364) rfl ?_
  have hc364 : u363 = (0 : Int32) := by rw [← hu363]; exact (own_var3 (own_rng hu40 hu43) (own_rng hu50 hu53) B.2.2.2.2.1 hu356 hu359).2 _
  refine Go.ifN X210.here hx (Jvm.hb hby at_364) ((if0 _ _).trans (teq hc364).2) (q := 367) rfl ?_
  refine Go.iconst X210.here hx (Jvm.hb hby at_367) (v := (1 : Int32)) rfl (q := 368) rfl ?_
  refine Go.goto X210.here hx (Jvm.hb hby at_368) (by decide) (q := 372) rfl ?_
  refine Go.istore X210.here hx (Jvm.hb hby at_372) (l2 := #[.val (.int q1), .val (.int q2), .val (.int q3), .val (.int q4), .val (.int q5), .val (.int q6), .val (.int u6), .val (.int u15), .val (.int u24), .val (.int u33), .val (.int u43), .val (.int u53), .val (.double u58), .second, .val (.double u63), .second, .val (.double u71), .second, .val (.double u79), .second, .val (.double u98), .second, .val (.double u117), .second, .val (.ref a101), .val (.ref a105), .val (.ref a112), .val (.ref a119), .val (.int (1 : Int32)), .val (.ref a169), .val (.ref a201)]) rfl (q := 374) rfl ?_
  refine Go.iload X210.here hx (Jvm.hb hby at_374) rfl (q := 376) rfl ?_
  have hc376_213 : ¬ ((1 : Int32) = (0 : Int32)) := by decide
  refine Go.ifN X210.here hx (Jvm.hb hby at_376) ((if0 _ _).trans (feq hc376_213).1) (q := 379) rfl ?_
  refine Go.aload X210.here hx (Jvm.hb hby at_379) rfl rfl (q := 381) rfl ?_
  refine Go.iconst X210.here hx (Jvm.hb hby at_381) (v := (0 : Int32)) rfl (q := 382) rfl ?_
  have f214 := f141.keep K131 (ninS ne142 (ninS ne143 (ninS ne144 nin0)))
  have f215 := f214.keep K152 (ninS ne142 (ninS ne143 (ninS ne144 nin0)))
  have f216 := f215.keep K169 (by simp)
  have f217 := f216.keep K180 (ninS ne142 (ninS ne143 (ninS ne144 nin0)))
  have f218 := f217.keep K201 (by simp)
  refine Go.daload X210 hx hZ q210 f218 (Jvm.hb hby at_382) (i := 0) (by decide) (by decide) rfl (q := 383) rfl ?_
  refine Go.dload X210.here hx (Jvm.hb hby at_383) rfl (q := 385) rfl ?_
  obtain ⟨u385, hu385⟩ : ∃ zq, cmpValue (FP.dcmp u58 u58) .l = zq := ⟨_, rfl⟩
  refine Go.dcmp X210.here hx (Jvm.hb hby at_385) hu385 (q := 386) rfl ?_
  have hc386 : u385 = (0 : Int32) := by rw [← hu385]; exact q_cmp (q_i2d hu58) (q_i2d hu58) _
  refine Go.ifN X210.here hx (Jvm.hb hby at_386) ((if0 _ _).trans (teq hc386).2) (q := 389) rfl ?_
  refine Go.aload X210.here hx (Jvm.hb hby at_389) rfl rfl (q := 391) rfl ?_
  refine Go.iconst X210.here hx (Jvm.hb hby at_391) (v := (1 : Int32)) rfl (q := 392) rfl ?_
  refine Go.daload X210 hx hZ q210 f218 (Jvm.hb hby at_392) (i := 1) (by decide) (by decide) rfl (q := 393) rfl ?_
  refine Go.dload X210.here hx (Jvm.hb hby at_393) rfl (q := 395) rfl ?_
  obtain ⟨u395, hu395⟩ : ∃ zq, cmpValue (FP.dcmp u63 u63) .l = zq := ⟨_, rfl⟩
  refine Go.dcmp X210.here hx (Jvm.hb hby at_395) hu395 (q := 396) rfl ?_
  have hc396 : u395 = (0 : Int32) := by rw [← hu395]; exact q_cmp (q_i2d hu63) (q_i2d hu63) _
  refine Go.ifN X210.here hx (Jvm.hb hby at_396) ((if0 _ _).trans (teq hc396).2) (q := 399) rfl ?_
  refine Go.iconst X210.here hx (Jvm.hb hby at_399) (v := (1 : Int32)) rfl (q := 400) rfl ?_
  refine Go.goto X210.here hx (Jvm.hb hby at_400) (by decide) (q := 404) rfl ?_
  refine Go.istore X210.here hx (Jvm.hb hby at_404) (l2 := #[.val (.int q1), .val (.int q2), .val (.int q3), .val (.int q4), .val (.int q5), .val (.int q6), .val (.int u6), .val (.int u15), .val (.int u24), .val (.int u33), .val (.int u43), .val (.int u53), .val (.double u58), .second, .val (.double u63), .second, .val (.double u71), .second, .val (.double u79), .second, .val (.double u98), .second, .val (.double u117), .second, .val (.ref a101), .val (.ref a105), .val (.ref a112), .val (.ref a119), .val (.int (1 : Int32)), .val (.ref a169), .val (.ref a201)]) rfl (q := 406) rfl ?_
  refine Go.iload X210.here hx (Jvm.hb hby at_406) rfl (q := 408) rfl ?_
  have hc408_222 : ¬ ((1 : Int32) = (0 : Int32)) := by decide
  refine Go.ifN X210.here hx (Jvm.hb hby at_408) ((if0 _ _).trans (feq hc408_222).1) (q := 411) rfl ?_
  refine Go.aload X210.here hx (Jvm.hb hby at_411) rfl rfl (q := 413) rfl ?_
  refine Go.iconst X210.here hx (Jvm.hb hby at_413) (v := (0 : Int32)) rfl (q := 414) rfl ?_
  have f223 := f160.keep K152 (ninS ne159 (ninS ne162 (ninS ne161 nin0)))
  have f224 := f223.keep K169 (by simp)
  have f225 := f224.keep K180 (ninS ne159 (ninS ne162 (ninS ne161 nin0)))
  have f226 := f225.keep K201 (by simp)
  refine Go.daload X210 hx hZ q210 f226 (Jvm.hb hby at_414) (i := 0) (by decide) (by decide) rfl (q := 415) rfl ?_
  refine Go.dload X210.here hx (Jvm.hb hby at_415) rfl (q := 417) rfl ?_
  obtain ⟨u417, hu417⟩ : ∃ zq, cmpValue (FP.dcmp u71 u71) .l = zq := ⟨_, rfl⟩
  refine Go.dcmp X210.here hx (Jvm.hb hby at_417) hu417 (q := 418) rfl ?_
  have hc418 : u417 = (0 : Int32) := by rw [← hu417]; exact q_cmp (q_i2d hu71) (q_i2d hu71) _
  refine Go.ifN X210.here hx (Jvm.hb hby at_418) ((if0 _ _).trans (teq hc418).2) (q := 421) rfl ?_
  refine Go.aload X210.here hx (Jvm.hb hby at_421) rfl rfl (q := 423) rfl ?_
  refine Go.iconst X210.here hx (Jvm.hb hby at_423) (v := (1 : Int32)) rfl (q := 424) rfl ?_
  refine Go.daload X210 hx hZ q210 f226 (Jvm.hb hby at_424) (i := 1) (by decide) (by decide) rfl (q := 425) rfl ?_
  refine Go.dload X210.here hx (Jvm.hb hby at_425) rfl (q := 427) rfl ?_
  obtain ⟨u427, hu427⟩ : ∃ zq, cmpValue (FP.dcmp u79 u79) .l = zq := ⟨_, rfl⟩
  refine Go.dcmp X210.here hx (Jvm.hb hby at_427) hu427 (q := 428) rfl ?_
  have hc428 : u427 = (0 : Int32) := by rw [← hu427]; exact q_cmp (q_i2d hu79) (q_i2d hu79) _
  refine Go.ifN X210.here hx (Jvm.hb hby at_428) ((if0 _ _).trans (teq hc428).2) (q := 431) rfl ?_
  refine Go.iconst X210.here hx (Jvm.hb hby at_431) (v := (1 : Int32)) rfl (q := 432) rfl ?_
  refine Go.goto X210.here hx (Jvm.hb hby at_432) (by decide) (q := 436) rfl ?_
  refine Go.istore X210.here hx (Jvm.hb hby at_436) (l2 := #[.val (.int q1), .val (.int q2), .val (.int q3), .val (.int q4), .val (.int q5), .val (.int q6), .val (.int u6), .val (.int u15), .val (.int u24), .val (.int u33), .val (.int u43), .val (.int u53), .val (.double u58), .second, .val (.double u63), .second, .val (.double u71), .second, .val (.double u79), .second, .val (.double u98), .second, .val (.double u117), .second, .val (.ref a101), .val (.ref a105), .val (.ref a112), .val (.ref a119), .val (.int (1 : Int32)), .val (.ref a169), .val (.ref a201)]) rfl (q := 438) rfl ?_
  refine Go.iload X210.here hx (Jvm.hb hby at_438) rfl (q := 440) rfl ?_
  have hc440_230 : ¬ ((1 : Int32) = (0 : Int32)) := by decide
  refine Go.ifN X210.here hx (Jvm.hb hby at_440) ((if0 _ _).trans (feq hc440_230).1) (q := 443) rfl ?_
  refine Go.aload X210.here hx (Jvm.hb hby at_443) rfl rfl (q := 445) rfl ?_
  refine Go.iconst X210.here hx (Jvm.hb hby at_445) (v := (0 : Int32)) rfl (q := 446) rfl ?_
  have f231 := f194.keep K180 (ninS ne189 (ninS ne192 (ninS ne191 nin0)))
  have f232 := f231.keep K201 (by simp)
  refine Go.daload X210 hx hZ q210 f232 (Jvm.hb hby at_446) (i := 0) (by decide) (by decide) rfl (q := 447) rfl ?_
  refine Go.dload X210.here hx (Jvm.hb hby at_447) rfl (q := 449) rfl ?_
  obtain ⟨u449, hu449⟩ : ∃ zq, cmpValue (FP.dcmp u98 u98) .l = zq := ⟨_, rfl⟩
  refine Go.dcmp X210.here hx (Jvm.hb hby at_449) hu449 (q := 450) rfl ?_
  have hc450 : u449 = (0 : Int32) := by rw [← hu449]; exact own_selfc A.2.2.2.2.2.2.2.2 _
  refine Go.ifN X210.here hx (Jvm.hb hby at_450) ((if0 _ _).trans (teq hc450).2) (q := 453) rfl ?_
  refine Go.aload X210.here hx (Jvm.hb hby at_453) rfl rfl (q := 455) rfl ?_
  refine Go.iconst X210.here hx (Jvm.hb hby at_455) (v := (1 : Int32)) rfl (q := 456) rfl ?_
  refine Go.daload X210 hx hZ q210 f232 (Jvm.hb hby at_456) (i := 1) (by decide) (by decide) rfl (q := 457) rfl ?_
  refine Go.dload X210.here hx (Jvm.hb hby at_457) rfl (q := 459) rfl ?_
  obtain ⟨u459, hu459⟩ : ∃ zq, cmpValue (FP.dcmp u117 u117) .l = zq := ⟨_, rfl⟩
  refine Go.dcmp X210.here hx (Jvm.hb hby at_459) hu459 (q := 460) rfl ?_
  have hc460 : u459 = (0 : Int32) := by rw [← hu459]; exact own_selfc B.2.2.2.2.2.2.2.2 _
  refine Go.ifN X210.here hx (Jvm.hb hby at_460) ((if0 _ _).trans (teq hc460).2) (q := 463) rfl ?_
  refine Go.iconst X210.here hx (Jvm.hb hby at_463) (v := (1 : Int32)) rfl (q := 464) rfl ?_
  refine Go.goto X210.here hx (Jvm.hb hby at_464) (by decide) (q := 468) rfl ?_
  refine Go.istore X210.here hx (Jvm.hb hby at_468) (l2 := #[.val (.int q1), .val (.int q2), .val (.int q3), .val (.int q4), .val (.int q5), .val (.int q6), .val (.int u6), .val (.int u15), .val (.int u24), .val (.int u33), .val (.int u43), .val (.int u53), .val (.double u58), .second, .val (.double u63), .second, .val (.double u71), .second, .val (.double u79), .second, .val (.double u98), .second, .val (.double u117), .second, .val (.ref a101), .val (.ref a105), .val (.ref a112), .val (.ref a119), .val (.int (1 : Int32)), .val (.ref a169), .val (.ref a201)]) rfl (q := 470) rfl ?_
  refine Go.iload X210.here hx (Jvm.hb hby at_470) rfl (q := 472) rfl ?_
  refine Go.retZ X210 hx hret hlk (Jvm.hb hby at_472) (Or.inr rfl) (by decide) (by decide) ?_
  exact ⟨rfl, N210⟩
set_option maxRecDepth 65536 in
set_option maxHeartbeats 40000000 in
theorem comes_1 {Post : Tables → Env → Array Value → State → Outcome → State → Prop} (hpost : ∀ tb e args s v u, (limb_1_1.after args s (.returned v) u = true ∧ limb_1_2.after args s (.returned v) u = true ∧ True) → FrameEnd s (.returned v) u (Jvm.fieldLocs frame_1_writes args s ++ Jvm.arrayLocs frame_1_arrays args s ++ Jvm.staticLocs frame_1_statics s) 24 128 → Post tb e args s (.returned v) u) :
    ArmFor flags0 classFile x code maxLocals ret World_1 tables_1 room_1 Calls_1 rest_1 Pre_1 Post := by
  intro l hfl _ _ p e ha hc hk s m args below hf hA hF happ hP
  obtain ⟨hcalls, hrest, hpre⟩ := hP
  obtain ⟨-, -, -, hnamed, -, -, -, hat⟩ := (Spec.applies_iff hf).mp happ
  obtain ⟨hg, hn⟩ := and_e (Cond.before_iff.mp (show (Jvm.Cond.and given_1 narrow_1).before args s = true from hpre))
  obtain ⟨g0, hg⟩ := and_e hg
  obtain ⟨w0, w1, w2, w3, w4, w5, rfl⟩ : ∃ w0 w1 w2 w3 w4 w5 : Value, args = #[w0, w1, w2, w3, w4, w5] := by
    have hs : args.size = 6 := by simpa [Cond.value, given_1] using g0
    obtain ⟨L⟩ := args
    match L, hs with
    | [w0, w1, w2, w3, w4, w5], _ => exact ⟨w0, w1, w2, w3, w4, w5, rfl⟩
  have hw := fun d (hd : d ∈ tables_1) => atoms_spec (ws := Jvm.Cond.code x code maxLocals ret :: tables_1) hat d (List.mem_cons_of_mem _ hd)
  obtain ⟨g1, hg⟩ := and_e hg
  obtain ⟨i0, e0⟩ := is_v g1
  obtain rfl : w0 = (.int i0) := Option.some.inj e0
  obtain ⟨g2, hg⟩ := and_e hg
  obtain ⟨i1, e1⟩ := is_v g2
  obtain rfl : w1 = (.int i1) := Option.some.inj e1
  obtain ⟨g3, hg⟩ := and_e hg
  obtain ⟨i2, e2⟩ := is_v g3
  obtain rfl : w2 = (.int i2) := Option.some.inj e2
  obtain ⟨g4, hg⟩ := and_e hg
  obtain ⟨i3, e3⟩ := is_v g4
  obtain rfl : w3 = (.int i3) := Option.some.inj e3
  obtain ⟨g5, hg⟩ := and_e hg
  obtain ⟨i4, e4⟩ := is_v g5
  obtain rfl : w4 = (.int i4) := Option.some.inj e4
  obtain ⟨i5, e5⟩ := is_v hg
  obtain rfl : w5 = (.int i5) := Option.some.inj e5
  obtain ⟨n, o, h1, h2, h3, _, L, rfl, ⟨rfl, N⟩, hq⟩ := rm_law l s _ hw tables_1 i0 i1 i2 i3 i4 i5  s.heap s.heap.size (Nat.le_refl _)  p e ha hc hk s m _ below hf ((Spec.applies_iff_loose hf).mp happ).1 ⟨rfl, State.Warmed39.refl s, rfl⟩ trivial
  refine ⟨n, _, h1, h2, h3, hpost _ _ _ _ _ _ ⟨Cond.after_iff.mpr rfl, Cond.after_iff.mpr (eq_i res_at (Term.int_eval (1)) rfl), trivial⟩ ⟨hq.1, hq.2.1, (hq.2.2.sift fun y hy => Or.inr (N y hy)).mono (by decide) (by decide)⟩⟩
theorem main_1_1 : Claimed_1_1 := comes_1 fun _ _ _ _ _ _ h hF => ⟨h.1, hF⟩
theorem main_1_2 : Claimed_1_2 := comes_1 fun _ _ _ _ _ _ h hF => ⟨h.2.1, hF⟩
end Jvm.Pilot.@@N@@
namespace Jvm.Pilot.@@N@@
open Jvm Jvm.ClassFile Sem Op Lib Jvm.Free Jvm.Stand Jvm.Pilot.@@N@@.Jvm.D
/-! MADE BY PROGRAM (witnessworld.py) out of the Statement's table words and the real class files: 11 classes; the members and pool entries that the words name. The judged class is class 1, her method 3. -/
namespace start1
open Jvm.ClassFile
def u (s : String) : CpInfo := .utf8 (stringToUtf16 s)
/-- a pool by its gaps: so many unusable entries, then the entry; so many at the end -/
def gap : Nat → List CpInfo → List CpInfo
  | 0, r => r
  | n + 1, r => .unusable :: gap n r
def poolList (es : List (Nat × CpInfo)) (last : Nat) : List CpInfo := es.foldr (fun e r => gap e.1 (e.2 :: r)) (gap last [])
def pool (es : List (Nat × CpInfo)) (last : Nat) : Array CpInfo := ⟨poolList es last⟩
def fileOf (pool : Array CpInfo) (this : Nat) (attrs : Array Attribute := #[]) (ms : Array MethodInfo := #[]) (fl : Nat := 33) (sup : Nat := 0) (ifs : Array Nat := #[]) (fds : Array FieldInfo := #[]) : ClassFile where
  minorVersion := 0
  majorVersion := 65
  constantPool := pool
  accessFlags := fl
  thisClass := this
  superClass := sup
  interfaces := ifs
  fields := fds
  methods := ms
  attributes := attrs
def plain (name : String) (sup : Option ClassId) : Class where
  name := name
  kind := .ordinary
  loader := none
  accessFlags := 33
  super := sup
  interfaces := #[]
  cf := none
  fields := #[]
  methods := #[]
  instanceTypes := #[]
  staticTypes := #[]
  resolved := #[]
  callSites := []
  init := .initialized
  statics := none
  mirror := none

def pool0 : Array CpInfo := pool [(5, u "<init>"), (0, u "()V"), (1, .class_ 10), (1, u "java/lang/Object")] 113

def k0c0 : Code := { maxStack := 0, maxLocals := 1, code := object_method_1_code, exceptionTable := #[], attributes := #[] }
def k0m0 : Method := { name := "<init>", desc := "()V", sig := { parameters := [], returnType := none }, accessFlags := 1, code := some k0c0 }
/-- java/lang/Object -/
def k0 : Class := { plain "java/lang/Object" none with
  accessFlags := 33
  interfaces := #[]
  cf := some (fileOf pool0 8 #[] #[{ accessFlags := 1, nameIndex := 5, descriptorIndex := 6, attributes := #[] }] 33 0 #[] #[])
  fields := #[]
  methods := #[k0m0]
  instanceTypes := #[]
  staticTypes := #[]
  resolved := Array.replicate 124 none
  statics := none }

def pool1 : Array CpInfo := pool [(2, .class_ 4), (1, u "java/lang/Object"), (0, u "<init>"), (0, u "()V"), (0, .double 4602678819172646912), (1, .long 3), (1, .double 4598175219545276416), (1, .class_ 14), (0, u "com/example/ratewright/ratewright/inference/RunningVariance"), (0, .methodref 13 16), (0, .nameAndType 5 17), (0, u "(I)V"), (0, .methodref 13 19), (0, .nameAndType 20 21), (0, u "add"), (0, u "([D)V"), (0, .methodref 13 23), (0, .nameAndType 24 25), (0, u "count"), (0, u "()I"), (0, .methodref 13 27), (0, .nameAndType 28 29), (0, u "variances"), (0, u "()[D"), (0, .methodref 31 32), (0, .class_ 33), (0, .nameAndType 34 35), (0, u "com/example/ratewright/ratewright/inference/RunningVarianceAddPinLaw"), (0, u "ref2"), (0, u "(J)D"), (0, .methodref 31 37), (0, .nameAndType 38 39), (0, u "ref3"), (0, u "(JJ)D"), (2, u "law"), (0, u "(IIIIII)Z")] 5

def k1m0 : Method := { name := "<init>", desc := "()V", sig := { parameters := [], returnType := none }, accessFlags := 1, code := none }
def k1c1 : Code := { maxStack := 4, maxLocals := 2, code := method_2_code, exceptionTable := #[], attributes := #[] }
def k1m1 : Method := { name := "ref2", desc := "(J)D", sig := { parameters := [.long], returnType := some .double }, accessFlags := 10, code := some k1c1 }
def k1c2 : Code := { maxStack := 6, maxLocals := 4, code := method_3_code, exceptionTable := #[], attributes := #[] }
def k1m2 : Method := { name := "ref3", desc := "(JJ)D", sig := { parameters := [.long, .long], returnType := some .double }, accessFlags := 10, code := some k1c2 }
def k1c3 : Code := { maxStack := 6, maxLocals := 31, code := code, exceptionTable := #[], attributes := #[] }
def k1m3 : Method := { name := "law", desc := "(IIIIII)Z", sig := { parameters := [.int, .int, .int, .int, .int, .int], returnType := some .boolean }, accessFlags := 9, code := some k1c3 }
/-- com/example/ratewright/ratewright/inference/RunningVarianceAddPinLaw -/
def k1 : Class := { plain "com/example/ratewright/ratewright/inference/RunningVarianceAddPinLaw" (some 0) with
  accessFlags := 49
  interfaces := #[]
  cf := some (fileOf pool1 31 #[] #[{ accessFlags := 1, nameIndex := 5, descriptorIndex := 6, attributes := #[] }, { accessFlags := 10, nameIndex := 34, descriptorIndex := 35, attributes := #[] }, { accessFlags := 10, nameIndex := 38, descriptorIndex := 39, attributes := #[] }, { accessFlags := 9, nameIndex := 42, descriptorIndex := 43, attributes := #[] }] 49 2 #[] #[])
  fields := #[]
  methods := #[k1m0, k1m1, k1m2, k1m3]
  instanceTypes := #[]
  staticTypes := #[]
  resolved := Array.replicate 49 none
  statics := none }

def pool2 : Array CpInfo := pool [(1, .methodref 2 3), (0, .class_ 4), (0, .nameAndType 5 6), (0, u "java/lang/Object"), (0, u "<init>"), (0, u "()V"), (0, .fieldref 8 9), (0, .class_ 10), (0, .nameAndType 11 12), (0, u "com/example/ratewright/ratewright/inference/RunningVariance"), (0, u "mean"), (0, u "[D"), (0, .fieldref 8 14), (0, .nameAndType 15 12), (0, u "sumOfSquares"), (0, .fieldref 8 17), (0, .nameAndType 18 19), (0, u "count"), (0, u "I"), (15, u "(I)V"), (2, u "add"), (0, u "([D)V"), (1, u "()I"), (0, u "variances"), (0, u "()[D")] 19

def k2c0 : Code := { maxStack := 2, maxLocals := 2, code := prog_15_method_1_code, exceptionTable := #[], attributes := #[] }
def k2m0 : Method := { name := "<init>", desc := "(I)V", sig := { parameters := [.int], returnType := none }, accessFlags := 0, code := some k2c0 }
def k2c1 : Code := { maxStack := 10, maxLocals := 5, code := prog_15_method_2_code, exceptionTable := #[], attributes := #[] }
def k2m1 : Method := { name := "add", desc := "([D)V", sig := { parameters := [(.array .double)], returnType := none }, accessFlags := 0, code := some k2c1 }
def k2c2 : Code := { maxStack := 1, maxLocals := 1, code := prog_15_method_3_code, exceptionTable := #[], attributes := #[] }
def k2m2 : Method := { name := "count", desc := "()I", sig := { parameters := [], returnType := some .int }, accessFlags := 0, code := some k2c2 }
def k2c3 : Code := { maxStack := 6, maxLocals := 3, code := prog_15_method_4_code, exceptionTable := #[], attributes := #[] }
def k2m3 : Method := { name := "variances", desc := "()[D", sig := { parameters := [], returnType := some (.array .double) }, accessFlags := 0, code := some k2c3 }
/-- com/example/ratewright/ratewright/inference/RunningVariance -/
def k2 : Class := { plain "com/example/ratewright/ratewright/inference/RunningVariance" (some 0) with
  accessFlags := 48
  interfaces := #[]
  cf := some (fileOf pool2 8 #[] #[{ accessFlags := 0, nameIndex := 5, descriptorIndex := 35, attributes := #[] }, { accessFlags := 0, nameIndex := 38, descriptorIndex := 39, attributes := #[] }, { accessFlags := 0, nameIndex := 18, descriptorIndex := 41, attributes := #[] }, { accessFlags := 0, nameIndex := 42, descriptorIndex := 43, attributes := #[] }] 48 2 #[] #[{ accessFlags := 18, nameIndex := 11, descriptorIndex := 12, attributes := #[] }, { accessFlags := 18, nameIndex := 15, descriptorIndex := 12, attributes := #[] }, { accessFlags := 2, nameIndex := 18, descriptorIndex := 19, attributes := #[] }])
  fields := #[{ name := "mean", type := (.array .double), accessFlags := 18, slot := 0, constantValue := 0 }, { name := "sumOfSquares", type := (.array .double), accessFlags := 18, slot := 1, constantValue := 0 }, { name := "count", type := .int, accessFlags := 2, slot := 2, constantValue := 0 }]
  methods := #[k2m0, k2m1, k2m2, k2m3]
  instanceTypes := #[(.array .double), (.array .double), .int]
  staticTypes := #[]
  resolved := Array.replicate 63 none
  statics := none }

def pool3 : Array CpInfo := pool [(1, u "java/lang/Cloneable"), (0, .class_ 1), (0, u "java/lang/Object"), (0, .class_ 3)] 3

/-- java/lang/Cloneable -/
def k3 : Class := { plain "java/lang/Cloneable" (some 0) with
  accessFlags := 1537
  interfaces := #[]
  cf := some (fileOf pool3 2 #[] #[] 1537 4 #[] #[])
  fields := #[]
  methods := #[]
  instanceTypes := #[]
  staticTypes := #[]
  resolved := Array.replicate 8 none
  statics := none }

def pool4 : Array CpInfo := pool [(1, u "java/io/Serializable"), (0, .class_ 1), (0, u "java/lang/Object"), (0, .class_ 3)] 3

/-- java/io/Serializable -/
def k4 : Class := { plain "java/io/Serializable" (some 0) with
  accessFlags := 1537
  interfaces := #[]
  cf := some (fileOf pool4 2 #[] #[] 1537 4 #[] #[])
  fields := #[]
  methods := #[]
  instanceTypes := #[]
  staticTypes := #[]
  resolved := Array.replicate 8 none
  statics := none }

/-- the primitive byte -/
def k5 : Class := { plain "byte" none with kind := .primitive 'B', accessFlags := 0x411 }
/-- [B -/
def k6 : Class := { plain "[B" (some 0) with kind := .array 5 .byte, interfaces := #[3, 4], accessFlags := 1041 }

/-- the primitive double -/
def k7 : Class := { plain "double" none with kind := .primitive 'D', accessFlags := 0x411 }
/-- [D -/
def k8 : Class := { plain "[D" (some 0) with kind := .array 7 .double, interfaces := #[3, 4], accessFlags := 1041 }

/-- the primitive int -/
def k9 : Class := { plain "int" none with kind := .primitive 'I', accessFlags := 0x411 }
/-- [I -/
def k10 : Class := { plain "[I" (some 0) with kind := .array 9 .int, interfaces := #[3, 4], accessFlags := 1041 }

def heap : Heap := #[]
def classes : Array Class := #[k0, k1, k2, k3, k4, k5, k6, k7, k8, k9, k10]
def interned : List (Array UInt16 × Addr) := []
def slotsUsed : Nat := 0
def theMethod : MethodId := ⟨1, 3⟩
def args0 : Array Value := #[.int 1, .int 1, .int 1, .int 1, .int 1, .int 1]
def aboutOver (below : List Frame) : State where
  vm := { classes := classes, interned := interned.toArray }
  heap := heap
  slotsUsed := slotsUsed
  threads := #[{ frames := .invoking theMethod args0 :: below }]
def below0 : List Frame := [.native { method := ⟨0, 0⟩, args := #[] }]
def about1 : State := aboutOver below0
def p0 : Program := .bare "" "" ""
def e0 : Env := launch0.env 0 0 0
theorem w_frames : about1.frames = Frame.invoking theMethod args0 :: below0 := rfl
set_option maxRecDepth 65536 in
theorem w_args : argsFit about1.vm theMethod args0 = true := by decide +kernel
set_option maxRecDepth 65536 in
theorem w_heap : heapFits about1 = true := by decide +kernel
set_option maxRecDepth 65536 in
theorem w_runnable : about1.curStatus? = some .runnable := by decide +kernel
set_option maxRecDepth 65536 in
theorem w_alone : about1.alone = true := by decide +kernel
set_option maxRecDepth 65536 in
theorem w_named : about1.methodNamed? x = some theMethod := by decide +kernel
set_option maxRecDepth 65536 in
theorem w_hears : about1.hears theMethod below0 = true := by decide +kernel
set_option maxRecDepth 65536 in
theorem w_ripe : about1.ripe theMethod args0 below0 = true := by decide +kernel
theorem w_running : about1.status = .running := rfl
set_option maxRecDepth 65536 in
theorem w_room : about1.hasRoom e0.platform room_1 = true :=
  launch0.hasRoom_least _ room_1 (by decide +kernel) (by decide +kernel) (by decide +kernel) (by decide +kernel) (by decide +kernel) (by decide +kernel)
theorem allAtoms_all (ts : List Jvm.Cond) (a : Array Jvm.Value) (st : Jvm.State) : (allAtoms ts).before a st = ts.all (fun c => c.before a st) := by
  induction ts with
  | nil => rfl
  | cons c t ih =>
    show (Jvm.Cond.and c (allAtoms t)).before a st = _
    rw [Jvm.Cond.before_and, ih, List.all_cons]
def words1 : List Jvm.Cond := Jvm.Cond.code x code maxLocals ret :: tables_1
/-- a 'code' word, met by the world's own term for the bytes: nothing is compared byte by byte -/
theorem code_word {y : MethodName} {bytes : ByteArray} {mx : Nat} {rt : Option FieldType} {a : Array Value} {s : State} {m : MethodId} {meth : Method} {c : Code} (h1 : s.methodNamed? y = some m) (h2 : s.vm.method? m = some meth) (h3 : meth.code = some c) (h4 : c.code = bytes)
    (h5 : (c.maxLocals == mx && c.exceptionTable.isEmpty && decide (c.maxStack ≤ mostOperands) && decide (meth.sig.returnType = rt) && !meth.locks && decide (parseMethodDescriptor y.desc = some meth.sig)) = true) : (Jvm.Cond.code y bytes mx rt).before a s = true := by
  simp only [Bool.and_eq_true, beq_iff_eq, Bool.not_eq_true', decide_eq_true_eq] at h5
  obtain ⟨⟨⟨⟨⟨g1, g2⟩, g3⟩, g4⟩, g5⟩, g6⟩ := h5
  simp [Cond.before, Cond.holds, Cond.value, h1, h2, h3, h4, g1, g2, g3, g4, g5, g6]
def isCode : Jvm.Cond → Bool
  | .code _ _ _ _ => true
  | _ => false
theorem all_split {L : List Jvm.Cond} {P : Jvm.Cond → Bool} (h1 : L.all (fun c => isCode c || P c) = true) (h2 : ∀ c ∈ L.filter isCode, P c = true) : L.all P = true := by
  refine List.all_eq_true.mpr fun c hc => ?_
  have h := List.all_eq_true.mp h1 c hc
  rcases Bool.eq_false_or_eq_true (isCode c) with hi | hi
  · exact h2 c (List.mem_filter.mpr ⟨hc, hi⟩)
  · simpa [hi] using h
set_option maxRecDepth 65536 in
theorem w_c0 : (Jvm.Cond.code x code maxLocals ret).before args0 about1 = true := code_word (m := ⟨1, 3⟩) (meth := k1m3) (c := k1c3) (by decide +kernel) rfl rfl rfl (by decide +kernel)
set_option maxRecDepth 65536 in
theorem w_c1 : (Jvm.Cond.code ({ cls := "com/example/ratewright/ratewright/inference/RunningVariance", name := "<init>", desc := "(I)V" } : Jvm.MethodName) prog_15_method_1_code (2 : Nat) (Option.none : Option Jvm.ClassFile.FieldType)).before args0 about1 = true := code_word (m := ⟨2, 0⟩) (meth := k2m0) (c := k2c0) (by decide +kernel) rfl rfl rfl (by decide +kernel)
set_option maxRecDepth 65536 in
theorem w_c2 : (Jvm.Cond.code ({ cls := "java/lang/Object", name := "<init>", desc := "()V" } : Jvm.MethodName) object_method_1_code (1 : Nat) (Option.none : Option Jvm.ClassFile.FieldType)).before args0 about1 = true := code_word (m := ⟨0, 0⟩) (meth := k0m0) (c := k0c0) (by decide +kernel) rfl rfl rfl (by decide +kernel)
set_option maxRecDepth 65536 in
theorem w_c3 : (Jvm.Cond.code ({ cls := "com/example/ratewright/ratewright/inference/RunningVariance", name := "add", desc := "([D)V" } : Jvm.MethodName) prog_15_method_2_code (5 : Nat) (Option.none : Option Jvm.ClassFile.FieldType)).before args0 about1 = true := code_word (m := ⟨2, 1⟩) (meth := k2m1) (c := k2c1) (by decide +kernel) rfl rfl rfl (by decide +kernel)
set_option maxRecDepth 65536 in
theorem w_c4 : (Jvm.Cond.code ({ cls := "com/example/ratewright/ratewright/inference/RunningVariance", name := "count", desc := "()I" } : Jvm.MethodName) prog_15_method_3_code (1 : Nat) (Option.some Jvm.ClassFile.FieldType.int)).before args0 about1 = true := code_word (m := ⟨2, 2⟩) (meth := k2m2) (c := k2c2) (by decide +kernel) rfl rfl rfl (by decide +kernel)
set_option maxRecDepth 65536 in
theorem w_c5 : (Jvm.Cond.code ({ cls := "com/example/ratewright/ratewright/inference/RunningVariance", name := "variances", desc := "()[D" } : Jvm.MethodName) prog_15_method_4_code (3 : Nat) (Option.some (Jvm.ClassFile.FieldType.array Jvm.ClassFile.FieldType.double))).before args0 about1 = true := code_word (m := ⟨2, 3⟩) (meth := k2m3) (c := k2c3) (by decide +kernel) rfl rfl rfl (by decide +kernel)
set_option maxRecDepth 65536 in
theorem w_c6 : (Jvm.Cond.code ({ cls := "com/example/ratewright/ratewright/inference/RunningVarianceAddPinLaw", name := "ref2", desc := "(J)D" } : Jvm.MethodName) method_2_code (2 : Nat) (Option.some Jvm.ClassFile.FieldType.double)).before args0 about1 = true := code_word (m := ⟨1, 1⟩) (meth := k1m1) (c := k1c1) (by decide +kernel) rfl rfl rfl (by decide +kernel)
set_option maxRecDepth 65536 in
theorem w_c7 : (Jvm.Cond.code ({ cls := "com/example/ratewright/ratewright/inference/RunningVarianceAddPinLaw", name := "ref3", desc := "(JJ)D" } : Jvm.MethodName) method_3_code (4 : Nat) (Option.some Jvm.ClassFile.FieldType.double)).before args0 about1 = true := code_word (m := ⟨1, 2⟩) (meth := k1m2) (c := k1c2) (by decide +kernel) rfl rfl rfl (by decide +kernel)
def codes1 : List Jvm.Cond := [Jvm.Cond.code x code maxLocals ret, Jvm.Cond.code ({ cls := "com/example/ratewright/ratewright/inference/RunningVariance", name := "<init>", desc := "(I)V" } : Jvm.MethodName) prog_15_method_1_code (2 : Nat) (Option.none : Option Jvm.ClassFile.FieldType), Jvm.Cond.code ({ cls := "java/lang/Object", name := "<init>", desc := "()V" } : Jvm.MethodName) object_method_1_code (1 : Nat) (Option.none : Option Jvm.ClassFile.FieldType), Jvm.Cond.code ({ cls := "com/example/ratewright/ratewright/inference/RunningVariance", name := "add", desc := "([D)V" } : Jvm.MethodName) prog_15_method_2_code (5 : Nat) (Option.none : Option Jvm.ClassFile.FieldType), Jvm.Cond.code ({ cls := "com/example/ratewright/ratewright/inference/RunningVariance", name := "count", desc := "()I" } : Jvm.MethodName) prog_15_method_3_code (1 : Nat) (Option.some Jvm.ClassFile.FieldType.int), Jvm.Cond.code ({ cls := "com/example/ratewright/ratewright/inference/RunningVariance", name := "variances", desc := "()[D" } : Jvm.MethodName) prog_15_method_4_code (3 : Nat) (Option.some (Jvm.ClassFile.FieldType.array Jvm.ClassFile.FieldType.double)), Jvm.Cond.code ({ cls := "com/example/ratewright/ratewright/inference/RunningVarianceAddPinLaw", name := "ref2", desc := "(J)D" } : Jvm.MethodName) method_2_code (2 : Nat) (Option.some Jvm.ClassFile.FieldType.double), Jvm.Cond.code ({ cls := "com/example/ratewright/ratewright/inference/RunningVarianceAddPinLaw", name := "ref3", desc := "(JJ)D" } : Jvm.MethodName) method_3_code (4 : Nat) (Option.some Jvm.ClassFile.FieldType.double)]
set_option maxRecDepth 65536 in
theorem codes_eq : words1.filter isCode = codes1 := rfl
theorem w_codes : ∀ c ∈ words1.filter isCode, c.before args0 about1 = true := by
  rw [codes_eq]
  intro c hc
  simp only [codes1, List.mem_cons, List.not_mem_nil, or_false] at hc
  rcases hc with rfl | rfl | rfl | rfl | rfl | rfl | rfl | rfl
  · exact w_c0
  · exact w_c1
  · exact w_c2
  · exact w_c3
  · exact w_c4
  · exact w_c5
  · exact w_c6
  · exact w_c7
set_option maxRecDepth 65536 in
theorem w_t1 : (words1.take 24).all (fun c => isCode c || c.before args0 about1) = true := by decide +kernel
set_option maxRecDepth 65536 in
theorem w_t2 : (words1.drop 24).all (fun c => isCode c || c.before args0 about1) = true := by decide +kernel
theorem w_tables : (allAtoms (Jvm.Cond.code x code maxLocals ret :: tables_1)).before args0 about1 = true := by
  rw [allAtoms_all]
  show words1.all (fun c => c.before args0 about1) = true
  refine all_split ?_ w_codes
  rw [← List.take_append_drop 24 words1, List.all_append, w_t1, w_t2]
  rfl
set_option maxRecDepth 65536 in
theorem w_case : (Jvm.Cond.and given_1 narrow_1).before args0 about1 = true := by decide +kernel
theorem w_applies : (headSpec (Jvm.Cond.code x code maxLocals ret :: tables_1) room_1).applies x e0.platform about1 = true :=
  (Spec.applies_iff w_frames).mpr ⟨w_running, w_runnable, w_alone, w_named, w_hears, w_ripe, w_room, w_tables⟩
theorem atStart : AtStart classFile x code maxLocals ret World_1 tables_1 room_1 Calls_1 rest_1 Pre_1 launch0 p0 e0 about1 theMethod args0 below0 :=
  ⟨lists_1, trivial, launch0.admits_env _ _ _, launch0.least_env, fairChoices_fair.cas, fairChoices_fair.clock, w_frames, w_args, w_heap, w_applies, trivial, trivial, w_case⟩
end start1
theorem witness_1 : WitnessClaimed_1 := ⟨start1.p0, start1.e0, start1.about1, start1.theMethod, start1.args0, start1.below0, start1.atStart⟩
end Jvm.Pilot.@@N@@
