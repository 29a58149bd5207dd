import JvmDerived
import JvmDerived.Pilot.@@N@@Statement
import JvmDerived.Pilot.@@N@@Code
set_option linter.unusedVariables false
set_option linter.unusedSimpArgs false
namespace Jvm.Pilot.@@N@@
open Jvm Jvm.ClassFile Sem Op Lib Jvm.Free Jvm.Stand Jvm.LawKit Jvm.RoadKit Bundle Jvm.Pilot.@@N@@.Jvm.D
/-! own layer 1: doubles as whole numbers of least units (2 to the -1074) -/
section OwnFp
open Jvm.FP Jvm.FP.Core Jvm.Free.Fl
/-- a power of two -/
def P2 (j : Nat) : Int := ((2 ^ j : Nat) : Int)
theorem P2_pos (j : Nat) : 0 < P2 j := Int.natCast_pos.mpr (Nat.two_pow_pos j)
theorem P2_add (i j : Nat) : P2 (i + j) = P2 i * P2 j := by unfold P2; rw [Nat.pow_add, Int.natCast_mul]
theorem P2_one64 : (one64 : Int) = P2 1074 := rfl
/-- the value of a double in least units -/
def Zv (a : UInt64) : Int := zval b64 (val64 a)
/-- some finite double has this value -/
def Rep (V : Int) : Prop := ∃ x : UInt64, DFin x ∧ Zv x = V
theorem own_qmax : b64.qmax = 971 := by decide
theorem own_signed_abs (c : Int) : signed (decide (c < 0)) c.natAbs = c := by
  unfold signed
  by_cases q : c < 0
  · simp [q]; omega
  · simp [q]; omega
theorem rep_core (s : Bool) {c j : Nat} (hc : c < 2 ^ 53) (hj : j ≤ 2045) : ∃ x : UInt64, DFin x ∧ Zv x = signed s (c * 2 ^ j) := by
  obtain ⟨c', q', h1, h2⟩ := round_exact (f := b64) good_b64 s (c := c) (q := (j : Int) - 1074) hc (by rw [qmin_b64]; omega) (by rw [own_qmax]; omega)
  refine ⟨of64 (round b64 (.fin s c ((j : Int) - 1074))), ⟨s, c', q', ?_⟩, ?_⟩
  · rw [val64_of64 (round_fits good_b64 _), h1]
  · unfold Zv
    rw [val64_of64 (round_fits good_b64 _), h1]
    show signed s (inUnits c' q' b64.qmin) = _
    rw [h2]
    unfold inUnits
    rw [show ((j : Int) - 1074 - b64.qmin).toNat = j by rw [qmin_b64]; omega]
theorem rep_mk (c : Int) (j : Nat) (hc : c.natAbs ≤ 2 ^ 53) (hj : j ≤ 2044) : Rep (c * P2 j) := by
  by_cases h : c.natAbs < 2 ^ 53
  · obtain ⟨x, h1, h2⟩ := rep_core (decide (c < 0)) h (j := j) (by omega)
    refine ⟨x, h1, h2.trans ?_⟩
    rw [signed_mul, own_signed_abs]; rfl
  · have h' : c.natAbs = 2 ^ 53 := by omega
    obtain ⟨x, h1, h2⟩ := rep_core (decide (c < 0)) (c := 2 ^ 52) (by decide) (j := j + 1) (by omega)
    refine ⟨x, h1, h2.trans ?_⟩
    have e : 2 ^ 52 * 2 ^ (j + 1) = c.natAbs * 2 ^ j := by
      rw [h', Nat.pow_add 2 j 1]
      generalize 2 ^ j = t
      omega
    rw [e, signed_mul, own_signed_abs]; rfl
theorem rep_of {V : Int} (c : Int) (j : Nat) (hc : c.natAbs ≤ 2 ^ 53) (hj : j ≤ 2044) (h : V = c * P2 j) : Rep V := h ▸ rep_mk c j hc hj
theorem rep_int (n : Int) (h : n.natAbs ≤ 2 ^ 53) : Rep (n * P2 1074) := rep_mk n 1074 h (by decide)
theorem rep_zero : Rep 0 := rep_of 0 0 (by decide) (by decide) (by simp)
theorem rep_self {x : UInt64} (h : DFin x) : Rep (Zv x) := ⟨x, h, rfl⟩
theorem rep_neg {V : Int} (h : Rep V) : Rep (-V) := by
  obtain ⟨x, hx, rfl⟩ := h
  obtain ⟨s, c, q, hv⟩ := hx
  refine ⟨Core.dneg x, ⟨!s, c, q, ?_⟩, ?_⟩
  · rw [Core.val64_dneg, hv]; rfl
  · unfold Zv; rw [Core.val64_dneg, zval_negate]
/-- between two finite values: finite -/
theorem fin_between {x : UInt64} (hn : val64 x ≠ .nan) {L H : Int} (hL : Rep L) (hH : Rep H) (h1 : L ≤ Zv x) (h2 : Zv x ≤ H) : DFin x := by
  cases hv : val64 x with
  | nan => exact absurd hv hn
  | fin s c q => exact ⟨s, c, q, hv⟩
  | inf s =>
    exfalso
    obtain ⟨y, hy, rfl⟩ := hL
    obtain ⟨z, hz, rfl⟩ := hH
    have a1 := hy.zval_lt
    have a2 := hz.zval_lt
    have e : Zv x = signed s (b64.tails * 2 ^ (b64.exps - 2)) := by unfold Zv; rw [hv]; rfl
    have b1 : signed (sgn (val64 y)) (zmag b64 (val64 y)) ≤ signed s (b64.tails * 2 ^ (b64.exps - 2)) := e ▸ h1
    have b2 : signed s (b64.tails * 2 ^ (b64.exps - 2)) ≤ signed (sgn (val64 z)) (zmag b64 (val64 z)) := e ▸ h2
    generalize b64.tails * 2 ^ (b64.exps - 2) = top at *
    generalize zmag b64 (val64 y) = my at *
    generalize zmag b64 (val64 z) = mz at *
    generalize sgn (val64 y) = sy at *
    generalize sgn (val64 z) = sz at *
    cases s <;> cases sy <;> cases sz <;> simp only [signed, if_true, Bool.false_eq_true, if_false] at b1 b2 <;> omega
theorem not_nan {x : UInt64} (h : Core.dIsNaN x = false) : val64 x ≠ .nan := (notNaN_iff x).mp h
theorem nn_of {x : UInt64} (h : DFin x) : NoNaN64 x := (fin64_core.mpr h).noNaN
/-! sums -/
theorem add_le {a b : UInt64} (ha : DFin a) (hb : DFin b) {V : Int} (hV : Rep V) (h : Zv a + Zv b ≤ V) : Zv (FP.dadd a b) ≤ V := by
  obtain ⟨x, hx, rfl⟩ := hV
  unfold Zv at h ⊢
  rw [val64_dadd]
  exact sum_le good_b64 ha hb (val64_fits a) (val64_fits b) (val64_fits x) hx.ne_nan h
theorem add_ge {a b : UInt64} (ha : DFin a) (hb : DFin b) {V : Int} (hV : Rep V) (h : V ≤ Zv a + Zv b) : V ≤ Zv (FP.dadd a b) := by
  obtain ⟨x, hx, rfl⟩ := hV
  unfold Zv at h ⊢
  rw [val64_dadd]
  exact sum_ge good_b64 ha hb (val64_fits a) (val64_fits b) (val64_fits x) hx.ne_nan h
theorem add_in {a b : UInt64} (ha : DFin a) (hb : DFin b) {L H : Int} (hL : Rep L) (hH : Rep H) (h1 : L ≤ Zv a + Zv b) (h2 : Zv a + Zv b ≤ H) : DFin (FP.dadd a b) ∧ L ≤ Zv (FP.dadd a b) ∧ Zv (FP.dadd a b) ≤ H :=
  ⟨fin_between (not_nan (Core.dadd_out ha.notNaN hb)) hL hH (add_ge ha hb hL h1) (add_le ha hb hH h2), add_ge ha hb hL h1, add_le ha hb hH h2⟩
theorem add_eq {a b : UInt64} (ha : DFin a) (hb : DFin b) {V : Int} (hV : Rep V) (h : Zv a + Zv b = V) : DFin (FP.dadd a b) ∧ Zv (FP.dadd a b) = V := by
  obtain ⟨h1, h2, h3⟩ := add_in ha hb hV hV (Int.le_of_eq h.symm) (Int.le_of_eq h)
  exact ⟨h1, Int.le_antisymm h3 h2⟩
/-! signs -/
theorem neg_eq {a : UInt64} (ha : DFin a) : DFin (FP.dneg a) ∧ Zv (FP.dneg a) = -Zv a := by
  obtain ⟨s, c, q, hv⟩ := ha
  constructor
  · exact ⟨!s, c, q, by rw [FP.val64_dneg, hv]; rfl⟩
  · unfold Zv; rw [FP.val64_dneg, zval_negate]
theorem cneg_eq {a : UInt64} (ha : DFin a) : DFin (Core.dneg a) ∧ Zv (Core.dneg a) = -Zv a := by
  obtain ⟨s, c, q, hv⟩ := ha
  constructor
  · exact ⟨!s, c, q, by rw [Core.val64_dneg, hv]; rfl⟩
  · unfold Zv; rw [Core.val64_dneg, zval_negate]
/-! differences -/
theorem sub_in {a b : UInt64} (ha : DFin a) (hb : DFin b) {L H : Int} (hL : Rep L) (hH : Rep H) (h1 : L ≤ Zv a - Zv b) (h2 : Zv a - Zv b ≤ H) : DFin (FP.dsub a b) ∧ L ≤ Zv (FP.dsub a b) ∧ Zv (FP.dsub a b) ≤ H := by
  obtain ⟨n1, n2⟩ := cneg_eq hb
  have e : FP.dsub a b = FP.dadd a (Core.dneg b) := Core.dsub_eq a b
  rw [e]
  exact add_in ha n1 hL hH (by rw [n2]; omega) (by rw [n2]; omega)
theorem sub_eq {a b : UInt64} (ha : DFin a) (hb : DFin b) {V : Int} (hV : Rep V) (h : Zv a - Zv b = V) : DFin (FP.dsub a b) ∧ Zv (FP.dsub a b) = V := by
  obtain ⟨h1, h2, h3⟩ := sub_in ha hb hV hV (Int.le_of_eq h.symm) (Int.le_of_eq h)
  exact ⟨h1, Int.le_antisymm h3 h2⟩
/-! products -/
theorem own_q2 : (b64.qmin - 2 * b64.qmin).toNat = 1074 := by rw [qmin_b64]; decide
theorem mul_le {a b : UInt64} (ha : DFin a) (hb : DFin b) {V : Int} (hV : Rep V) (h : Zv a * Zv b ≤ V * P2 1074) : Zv (FP.dmul a b) ≤ V := by
  obtain ⟨x, hx, rfl⟩ := hV
  obtain ⟨s, c, q, hva⟩ := ha
  obtain ⟨t, d, r, hvb⟩ := hb
  have fa := val64_fits a
  have fb := val64_fits b
  unfold Zv at h ⊢
  rw [hva] at fa h
  rw [hvb] at fb h
  obtain ⟨p1, p2, p3⟩ := product_units fa fb
  rw [val64_dmul, hva, hvb, p1]
  refine zval_round_le good_b64 (val64_fits x) hx.ne_nan (e0 := 2 * b64.qmin) (by rw [qmin_b64]; decide) p2 ?_
  rw [p3, signed_xor, own_q2]
  exact h
theorem mul_ge {a b : UInt64} (ha : DFin a) (hb : DFin b) {V : Int} (hV : Rep V) (h : V * P2 1074 ≤ Zv a * Zv b) : V ≤ Zv (FP.dmul a b) := by
  obtain ⟨x, hx, rfl⟩ := hV
  obtain ⟨s, c, q, hva⟩ := ha
  obtain ⟨t, d, r, hvb⟩ := hb
  have fa := val64_fits a
  have fb := val64_fits b
  unfold Zv at h ⊢
  rw [hva] at fa h
  rw [hvb] at fb h
  obtain ⟨p1, p2, p3⟩ := product_units fa fb
  rw [val64_dmul, hva, hvb, p1]
  refine zval_round_ge good_b64 (val64_fits x) hx.ne_nan (e0 := 2 * b64.qmin) (by rw [qmin_b64]; decide) p2 ?_
  rw [p3, signed_xor, own_q2]
  exact h
theorem mul_in {a b : UInt64} (ha : DFin a) (hb : DFin b) {L H : Int} (hL : Rep L) (hH : Rep H) (h1 : L * P2 1074 ≤ Zv a * Zv b) (h2 : Zv a * Zv b ≤ H * P2 1074) : DFin (FP.dmul a b) ∧ L ≤ Zv (FP.dmul a b) ∧ Zv (FP.dmul a b) ≤ H :=
  ⟨fin_between (not_nan (Core.dmul_out ha hb)) hL hH (mul_ge ha hb hL h1) (mul_le ha hb hH h2), mul_ge ha hb hL h1, mul_le ha hb hH h2⟩
theorem mul_eq {a b : UInt64} (ha : DFin a) (hb : DFin b) {V : Int} (hV : Rep V) (h : Zv a * Zv b = V * P2 1074) : DFin (FP.dmul a b) ∧ Zv (FP.dmul a b) = V := by
  obtain ⟨h1, h2, h3⟩ := mul_in ha hb hV hV (Int.le_of_eq h.symm) (Int.le_of_eq h)
  exact ⟨h1, Int.le_antisymm h3 h2⟩
/-! quotients by a positive number -/
theorem own_sgn_le {s t : Bool} {A V B r : Nat} (hB : 0 < B) (hle : A ≤ V * B → r ≤ V) (hge : V * B ≤ A → V ≤ r) (h : signed s A ≤ signed t V * (B : Int)) : signed s r ≤ signed t V := by
  rw [← signed_mul] at h
  have hz : V * B = 0 → V = 0 := fun q => by rcases Nat.mul_eq_zero.mp q with q | q <;> omega
  generalize V * B = vb at *
  cases s <;> cases t <;> simp only [signed, if_true, Bool.false_eq_true, if_false] at h ⊢
  · have := hle (by omega); omega
  · have := hle (by omega); have := hz (by omega); omega
  · omega
  · have := hge (by omega); omega
theorem own_sgn_ge {s t : Bool} {A V B r : Nat} (hB : 0 < B) (hle : A ≤ V * B → r ≤ V) (hge : V * B ≤ A → V ≤ r) (h : signed t V * (B : Int) ≤ signed s A) : signed t V ≤ signed s r := by
  rw [← signed_mul] at h
  have hz : V * B = 0 → V = 0 := fun q => by rcases Nat.mul_eq_zero.mp q with q | q <;> omega
  generalize V * B = vb at *
  cases s <;> cases t <;> simp only [signed, if_true, Bool.false_eq_true, if_false] at h ⊢
  · have := hge (by omega); omega
  · omega
  · have := hle (by omega); have := hz (by omega); omega
  · have := hle (by omega); omega
theorem div_core {a b : UInt64} (ha : DFin a) (hb : DFin b) (hp : 0 < Zv b) (x : UInt64) (hx : DFin x) :
    ∃ (s : Bool) (A B : Nat), (B : Int) = Zv b ∧ signed s A = Zv a * P2 1074 ∧ 0 < B ∧ ∃ r, Zv (FP.ddiv a b) = signed s r ∧ (A ≤ zmag b64 (val64 x) * B → r ≤ zmag b64 (val64 x)) ∧ (zmag b64 (val64 x) * B ≤ A → zmag b64 (val64 x) ≤ r) := by
  obtain ⟨s, c, q, hva⟩ := ha
  obtain ⟨t, d, r, hvb⟩ := hb
  have fa := val64_fits a
  have fb := val64_fits b
  rw [hva] at fa
  rw [hvb] at fb
  have f1 := fa.2.1
  have f2 := fb.2.1
  have zb : Zv b = signed t (inUnits d r b64.qmin) := by unfold Zv; rw [hvb]; rfl
  have hd : 0 < d := by
    rcases Nat.eq_zero_or_pos d with q0 | q0
    · rw [zb, q0] at hp
      have : inUnits 0 r b64.qmin = 0 := Nat.zero_mul _
      rw [this, signed_zero] at hp; omega
    · exact q0
  have ht : t = false := by
    cases t with
    | false => rfl
    | true => rw [zb] at hp; simp only [signed, if_true] at hp; omega
  subst ht
  have hB : 0 < inUnits d r b64.qmin := Nat.mul_pos hd (Nat.two_pow_pos _)
  have e1 : inUnits c (q - r) (2 * b64.qmin - r) = inUnits c q b64.qmin * 2 ^ 1074 := by
    unfold inUnits
    rw [Nat.mul_assoc, ← Nat.pow_add]
    rw [qmin_b64] at *
    congr 2; omega
  have e2 : 2 ^ (b64.qmin - (2 * b64.qmin - r)).toNat * d = inUnits d r b64.qmin := by
    unfold inUnits
    rw [Nat.mul_comm]; congr 2; omega
  have hv : val64 (FP.ddiv a b) = roundRatio b64 s c d (q - r) := by
    rw [val64_ddiv, hva, hvb]
    show (if d = 0 then _ else roundRatio b64 (s != false) c d (q - r)) = _
    rw [if_neg (by omega)]
    cases s <;> rfl
  refine ⟨s, inUnits c q b64.qmin * 2 ^ 1074, inUnits d r b64.qmin, ?_, ?_, hB, zmag b64 (roundRatio b64 s c d (q - r)), ?_, ?_, ?_⟩
  · rw [zb]; simp only [signed, Bool.false_eq_true, if_false]
  · unfold Zv; rw [signed_mul, hva]; rfl
  · unfold Zv; rw [hv]; show signed (sgn _) _ = _; rw [sgn_roundRatio]
  · intro h
    refine zmag_roundRatio_le good_b64 hd (val64_fits x) hx.ne_nan (e0 := 2 * b64.qmin - r) (by have := qmin_b64; omega) (by have := qmin_b64; omega) ?_
    rw [e1, Nat.mul_assoc, e2]; exact h
  · intro h
    refine zmag_roundRatio_ge good_b64 hd (val64_fits x) (e0 := 2 * b64.qmin - r) (by have := qmin_b64; omega) (by have := qmin_b64; omega) ?_
    rw [e1, Nat.mul_assoc, e2]; exact h
theorem div_le {a b : UInt64} (ha : DFin a) (hb : DFin b) (hp : 0 < Zv b) {V : Int} (hV : Rep V) (h : Zv a * P2 1074 ≤ V * Zv b) : Zv (FP.ddiv a b) ≤ V := by
  obtain ⟨x, hx, rfl⟩ := hV
  obtain ⟨s, A, B, h1, h2, h3, r, h4, h5, h6⟩ := div_core ha hb hp x hx
  rw [h4]
  rw [← h2, ← h1] at h
  exact own_sgn_le h3 h5 h6 h
theorem div_ge {a b : UInt64} (ha : DFin a) (hb : DFin b) (hp : 0 < Zv b) {V : Int} (hV : Rep V) (h : V * Zv b ≤ Zv a * P2 1074) : V ≤ Zv (FP.ddiv a b) := by
  obtain ⟨x, hx, rfl⟩ := hV
  obtain ⟨s, A, B, h1, h2, h3, r, h4, h5, h6⟩ := div_core ha hb hp x hx
  rw [h4]
  rw [← h2, ← h1] at h
  exact own_sgn_ge h3 h5 h6 h
theorem pos_nz {b : UInt64} (hp : 0 < Zv b) : ¬ DZero b := fun q => by
  have := q.zval
  unfold Zv at hp
  omega
theorem div_in {a b : UInt64} (ha : DFin a) (hb : DFin b) (hp : 0 < Zv b) {L H : Int} (hL : Rep L) (hH : Rep H) (h1 : L * Zv b ≤ Zv a * P2 1074) (h2 : Zv a * P2 1074 ≤ H * Zv b) : DFin (FP.ddiv a b) ∧ L ≤ Zv (FP.ddiv a b) ∧ Zv (FP.ddiv a b) ≤ H :=
  ⟨fin_between (not_nan (Core.ddiv_out ha.notNaN hb (pos_nz hp))) hL hH (div_ge ha hb hp hL h1) (div_le ha hb hp hH h2), div_ge ha hb hp hL h1, div_le ha hb hp hH h2⟩
theorem div_eq {a b : UInt64} (ha : DFin a) (hb : DFin b) (hp : 0 < Zv b) {V : Int} (hV : Rep V) (h : Zv a * P2 1074 = V * Zv b) : DFin (FP.ddiv a b) ∧ Zv (FP.ddiv a b) = V := by
  obtain ⟨h1, h2, h3⟩ := div_in ha hb hp hV hV (Int.le_of_eq h.symm) (Int.le_of_eq h)
  exact ⟨h1, Int.le_antisymm h3 h2⟩
/-! whole numbers -/
theorem l2d_in {n : Int64} {L H : Int} (hL : Rep L) (hH : Rep H) (h1 : L ≤ n.toInt * P2 1074) (h2 : n.toInt * P2 1074 ≤ H) : L ≤ Zv (FP.l2d n) ∧ Zv (FP.l2d n) ≤ H := by
  obtain ⟨x, hx, rfl⟩ := hL
  obtain ⟨y, hy, rfl⟩ := hH
  exact ⟨l2d_zval_ge hx.ne_nan h1, l2d_zval_le hy.ne_nan h2⟩
theorem l2d_dfin (n : Int64) : DFin (FP.l2d n) := Core.l2d_fin n
theorem i2d_dfin (n : Int32) : DFin (FP.i2d n) := Core.i2d_fin n
theorem l2d_rep {n : Int64} (h : Rep (n.toInt * P2 1074)) : Zv (FP.l2d n) = n.toInt * P2 1074 := by
  obtain ⟨h1, h2⟩ := l2d_in h h (Int.le_refl _) (Int.le_refl _)
  exact Int.le_antisymm h2 h1
theorem l2d_eq {n : Int64} (h : n.toInt.natAbs ≤ 2 ^ 53) : Zv (FP.l2d n) = n.toInt * P2 1074 := l2d_rep (rep_int _ h)
theorem i2d_eq (n : Int32) : Zv (FP.i2d n) = n.toInt * P2 1074 := by
  rw [i2d_w, l2d_eq (by rw [Int32.toInt_toInt64]; have := int32_abs n; omega), Int32.toInt_toInt64]
theorem d2l_eq {a : UInt64} (ha : DFin a) {n : Int} (h : Zv a = n * P2 1074) (h1 : -9223372036854775808 ≤ n) (h2 : n < 9223372036854775808) : (FP.d2l a).toInt = n := by
  have e := d2l_val ha.ne_nan
  have z : signed (sgn (val64 a)) (zmag b64 (val64 a)) = n * (one64 : Int) := h
  have hp := one64_pos
  have hm : zmag b64 (val64 a) = n.natAbs * one64 := by
    have q := congrArg Int.natAbs z
    rw [natAbs_signed, Int.natAbs_mul] at q
    exact q
  have hs : signed (sgn (val64 a)) n.natAbs = n := by
    rw [hm, signed_mul] at z
    exact Int.eq_of_mul_eq_mul_right (by omega) z
  rw [hm, Nat.mul_div_cancel _ hp, hs] at e
  show (Core.d2l a).toInt = n
  rw [e]; omega
/-! comparisons -/
theorem cmp_lt {a b : UInt64} (ha : DFin a) (hb : DFin b) (o : CmpOp) (h : Zv a < Zv b) : cmpValue (FP.dcmp a b) o = -1 := by
  rw [show FP.dcmp a b = some .lt from dcmp_lt.mpr ⟨ha.ne_nan, hb.ne_nan, h⟩]; rfl
theorem cmp_eq {a b : UInt64} (ha : DFin a) (hb : DFin b) (o : CmpOp) (h : Zv a = Zv b) : cmpValue (FP.dcmp a b) o = 0 := by
  rw [show FP.dcmp a b = some .eq from dcmp_eq.mpr ⟨ha.ne_nan, hb.ne_nan, h⟩]; rfl
theorem cmp_gt {a b : UInt64} (ha : DFin a) (hb : DFin b) (o : CmpOp) (h : Zv b < Zv a) : cmpValue (FP.dcmp a b) o = 1 := by
  rw [show FP.dcmp a b = some .gt from dcmp_gt.mpr ⟨ha.ne_nan, hb.ne_nan, h⟩]; rfl
/-! constants -/
theorem zero_fin : DFin 0 := (fin_bits _).mpr (by decide)
theorem zero_z : Zv 0 = 0 := zval64_zero
theorem one_fin : DFin 4607182418800017408 := (fin_bits _).mpr (by decide)
theorem one_z : Zv 4607182418800017408 = 1 * P2 1074 := by unfold Zv P2; decide +kernel
end OwnFp

/-! own layer 2: walking forward -/
section OwnGo
open Jvm.Free.Fl
variable {p : Program} {l : Launch} {e : Env} {R : Room} {s : State} {m : MethodId} {args : Array Value} {below : List Frame} {meth : Method} {c : Code} {T : State} {locs : List Loc} {cells slots : Nat} {Q : Outcome → State → Prop}
/-- from here the run comes to an end that Q allows -/
def Go (p : Program) (e : Env) (below : List Frame) (Q : Outcome → State → Prop) (S : State) : Prop :=
  ∃ s₂ o, Steps p.tables e below S s₂ ∧ s₂.status = .running ∧ Ended s₂ below o ∧ Q o s₂
theorem Go.of {S S' : State} (h : ∀ t, Steps p.tables e below S' t → Steps p.tables e below S t) (g : Go p e below Q S') : Go p e below Q S := by
  obtain ⟨s₂, o, h1, h2⟩ := g
  exact ⟨s₂, o, h _ h1, h2⟩
theorem Go.tr {S S' : State} (h : Steps p.tables e below S S') (g : Go p e below Q S') : Go p e below Q S := Go.of (fun _ k => h.trans k) g
abbrev Ret (s : State) (Qv : Option Value → Heap → List Loc → Prop) (kc ks : Nat) : Outcome → State → Prop := fun o U' => ∃ v L, o = .returned v ∧ Qv v U'.heap L ∧ FrameEnd s o U' L kc ks
theorem Go.done (X : Stand p l e R s m args below meth c T locs cells slots) {g : JFrame} {v : Option Value} (hv : meth.sig.returnType = none → v = none) (hlocks : meth.locks = false)
    (hst : ∀ fs, (∀ (f : JFrame) (acts : List Action), f.method = m → f.locked = none → f.entered = [] → (doReturn e (T.setTop f) acts v).1 = T.setFrames fs) → Steps p.tables e below (T.setTop g) (T.setFrames fs))
    {Qv : Option Value → Heap → List Loc → Prop} {kc ks : Nat} (hc : cells ≤ kc) (hk : slots ≤ ks) (hq : Qv v T.heap locs) : Go p e below (Ret s Qv kc ks) (T.setTop g) := by
  obtain ⟨fs, hr, hrun, hended, hW, hsame⟩ := X.leave (v := v) hv hlocks
  exact ⟨_, _, hst fs hr, hrun, hended, v, locs, rfl, hq, ⟨_, rfl⟩, hW, hsame.mono hc hk⟩
theorem Go.retV (X : Stand p l e R s m args below meth c T locs cells slots) (hx : p.tables.exec = Jvm.exec) {pc : Nat} {Ls : Array Slot} (hret : meth.sig.returnType = none) (hlk : meth.locks = false) (hd : decode c.code pc = .ok (.return_, 1))
    {Qv : Option Value → Heap → List Loc → Prop} {kc ks : Nat} (hc : cells ≤ kc) (hk : slots ≤ ks) (hq : Qv none T.heap locs) : Go p e below (Ret s Qv kc ks) (T.setTop (mkF m pc Ls [])) :=
  Go.done X (fun _ => rfl) hlk (fun _ hr => X.returnOut hx hret hd hr) hc hk hq
theorem Go.retL (X : Stand p l e R s m args below meth c T locs cells slots) (hx : p.tables.exec = Jvm.exec) {pc : Nat} {Ls : Array Slot} {st : List Value} {z : Int64} (hret : meth.sig.returnType = some .long) (hlk : meth.locks = false) (hd : decode c.code pc = .ok (.lreturn, 1))
    {Qv : Option Value → Heap → List Loc → Prop} {kc ks : Nat} (hc : cells ≤ kc) (hk : slots ≤ ks) (hq : Qv (some (.long z)) T.heap locs) : Go p e below (Ret s Qv kc ks) (T.setTop (mkF m pc Ls ((.long z) :: st))) :=
  Go.done X (fun h => by rw [hret] at h; cases h) hlk (fun _ hr => retOut X hx hret rfl (Or.inr (Or.inl ⟨rfl, rfl, z, rfl⟩)) hd hr) hc hk hq
theorem Go.retD (X : Stand p l e R s m args below meth c T locs cells slots) (hx : p.tables.exec = Jvm.exec) {pc : Nat} {Ls : Array Slot} {st : List Value} {z : UInt64} (hret : meth.sig.returnType = some .double) (hlk : meth.locks = false) (hd : decode c.code pc = .ok (.dreturn, 1))
    {Qv : Option Value → Heap → List Loc → Prop} {kc ks : Nat} (hc : cells ≤ kc) (hk : slots ≤ ks) (hq : Qv (some (.double z)) T.heap locs) : Go p e below (Ret s Qv kc ks) (T.setTop (mkF m pc Ls ((.double z) :: st))) :=
  Go.done X (fun h => by rw [hret] at h; cases h) hlk (fun _ hr => retOut X hx hret rfl (Or.inr (Or.inr (Or.inl ⟨rfl, rfl, z, rfl⟩))) hd hr) hc hk hq
theorem Go.retF (X : Stand p l e R s m args below meth c T locs cells slots) (hx : p.tables.exec = Jvm.exec) {pc : Nat} {Ls : Array Slot} {st : List Value} {z : UInt32} (hret : meth.sig.returnType = some .float) (hlk : meth.locks = false) (hd : decode c.code pc = .ok (.freturn, 1))
    {Qv : Option Value → Heap → List Loc → Prop} {kc ks : Nat} (hc : cells ≤ kc) (hk : slots ≤ ks) (hq : Qv (some (.float z)) T.heap locs) : Go p e below (Ret s Qv kc ks) (T.setTop (mkF m pc Ls ((.float z) :: st))) :=
  Go.done X (fun h => by rw [hret] at h; cases h) hlk (fun _ hr => retOut X hx hret rfl (Or.inr (Or.inr (Or.inr (Or.inl ⟨rfl, rfl, z, rfl⟩)))) hd hr) hc hk hq
theorem Go.retI (X : Stand p l e R s m args below meth c T locs cells slots) (hx : p.tables.exec = Jvm.exec) {pc : Nat} {Ls : Array Slot} {st : List Value} {z : Int32} (hret : meth.sig.returnType = some .int) (hlk : meth.locks = false) (hd : decode c.code pc = .ok (.ireturn, 1))
    {Qv : Option Value → Heap → List Loc → Prop} {kc ks : Nat} (hc : cells ≤ kc) (hk : slots ≤ ks) (hq : Qv (some (.int z)) T.heap locs) : Go p e below (Ret s Qv kc ks) (T.setTop (mkF m pc Ls ((.int z) :: st))) :=
  Go.done X (fun h => by rw [hret] at h; cases h) hlk (fun _ hr => retOut X hx hret rfl (Or.inl ⟨rfl, Or.inl rfl, z, rfl⟩) hd hr) hc hk hq
theorem Go.retZ (X : Stand p l e R s m args below meth c T locs cells slots) (hx : p.tables.exec = Jvm.exec) {pc : Nat} {Ls : Array Slot} {st : List Value} {z : Int32} (hret : meth.sig.returnType = some .boolean) (hlk : meth.locks = false) (hd : decode c.code pc = .ok (.ireturn, 1)) (hz : z = 0 ∨ z = 1)
    {Qv : Option Value → Heap → List Loc → Prop} {kc ks : Nat} (hc : cells ≤ kc) (hk : slots ≤ ks) (hq : Qv (some (.int z)) T.heap locs) : Go p e below (Ret s Qv kc ks) (T.setTop (mkF m pc Ls ((.int z) :: st))) :=
  Go.done X (fun h => by rw [hret] at h; cases h) hlk (fun _ hr => retOut X hx hret (by rcases hz with rfl | rfl <;> rfl) (Or.inl ⟨rfl, Or.inr (Or.inl rfl), z, rfl⟩) hd hr) hc hk hq
theorem Go.retA (X : Stand p l e R s m args below meth c T locs cells slots) (hx : p.tables.exec = Jvm.exec) {pc : Nat} {Ls : Array Slot} {st : List Value} {v : Value} {t : FieldType} (hret : meth.sig.returnType = some t) (hlk : meth.locks = false) (hd : decode c.code pc = .ok (.areturn, 1)) (ht : t.isReference = true) (hv : v.isRef = true) (hn : narrow t v = v)
    {Qv : Option Value → Heap → List Loc → Prop} {kc ks : Nat} (hc : cells ≤ kc) (hk : slots ≤ ks) (hq : Qv (some v) T.heap locs) : Go p e below (Ret s Qv kc ks) (T.setTop (mkF m pc Ls (v :: st))) :=
  Go.done X (fun h => by rw [hret] at h; cases h) hlk (fun _ hr => retOut X hx hret hn (Or.inr (Or.inr (Or.inr (Or.inr ⟨rfl, ht, hv⟩)))) hd hr) hc hk hq
theorem enter {l : Launch} {Z : State} {y : MethodName} {bytes : ByteArray} {maxL : Nat} {ret : Option FieldType} {ws : List Jvm.Cond} {rm : Room} {as' : Array Value} {h0 : Heap} {Qv : Option Value → Heap → List Loc → Prop} {Ls : Array Slot} {kc ks : Nat}
    (hpn : plainFor y = true) (hef : ∀ m, entryFrame m as' maxL = mkF m 0 Ls [])
    (body : ∀ (p : Program) (e : Env) (s : State) (m : MethodId) (below : List Frame) (meth : Method) (c : Code) (s₁ : State), p.tables.exec = Jvm.exec → c.code = bytes → c.maxLocals = maxL → s.vm.findClass y.cls = some m.cls → meth.name = y.name → meth.sig.returnType = ret → meth.locks = false → Z.Warmed39 s.vm →
      Stand p l e rm s m as' below meth c s₁ [] 0 0 → s₁.heap = h0 → Go p e below (Ret s Qv kc ks) (s₁.setTop (mkF m 0 Ls []))) :
    MetFree l y (head1 (Jvm.Cond.code y bytes maxL ret :: ws) rm) (fun a U => a = as' ∧ Z.Warmed39 U.vm ∧ U.heap = h0) (fun _ _ _ _ _ => True) (fun _ U o U' => ∃ v L, o = .returned v ∧ Qv v U'.heap L ∧ FrameEnd U o U' L kc ks) := by
  refine MetFree.of_bodySF hpn hisR ?_
  intro p e s m args below meth c s₁ Bd hml0 hP hK
  obtain ⟨rfl, hZ, hh⟩ := hP
  have e0 : s₁.heap = h0 := by rw [← hh, Bd.state]; rfl
  obtain ⟨s₂, o, h1, h2, h3, h4⟩ := body p e s m below meth c s₁ Bd.exec Bd.bytes hml0 (findClass_of_methodNamed Bd.named) (name_of_methodNamed Bd.named Bd.method).1 Bd.returns (BodyLoose.notSynchronized Bd) hZ (Stand.of_body Bd) e0
  exact ⟨s₂, o, castTop (hef m) h1, h2, h3, h4⟩
theorem Go.iload (h : At T m c below) (hx : p.tables.exec = Jvm.exec) {pc q : Nat} {Ls : Array Slot} {st : List Value} {k : Nat} {v : Int32} (hd : decode c.code pc = .ok (.iload k, 2)) (hl : Ls[k]? = some (.val (.int v))) (hq : pc + 2 = q) (g : Go p e below Q (T.setTop (mkF m q Ls (.int v :: st)))) : Go p e below Q (T.setTop (mkF m pc Ls st)) := by
  subst hq; exact Go.of (fun _ r => XS.iload h hx rfl hd hl r) g
theorem Go.iloadN (h : At T m c below) (hx : p.tables.exec = Jvm.exec) {pc q : Nat} {Ls : Array Slot} {st : List Value} {k : Fin 4} {v : Int32} (hd : decode c.code pc = .ok (.iload_n k, 1)) (hl : Ls[k.val]? = some (.val (.int v))) (hq : pc + 1 = q) (g : Go p e below Q (T.setTop (mkF m q Ls (.int v :: st)))) : Go p e below Q (T.setTop (mkF m pc Ls st)) := by
  subst hq; exact Go.of (fun _ r => XS.iloadN h hx rfl hd hl r) g
theorem Go.istore (h : At T m c below) (hx : p.tables.exec = Jvm.exec) {pc q : Nat} {Ls : Array Slot} {st : List Value} {k : Nat} {v : Int32} {l2 : Array Slot} (hd : decode c.code pc = .ok (.istore k, 2)) (hl : storeLocals Ls k (.int v) = some l2) (hq : pc + 2 = q) (g : Go p e below Q (T.setTop (mkF m q l2 st))) : Go p e below Q (T.setTop (mkF m pc Ls (.int v :: st))) := by
  subst hq; exact Go.of (fun _ r => XS.istore h hx rfl hd rfl hl r) g
theorem Go.istoreN (h : At T m c below) (hx : p.tables.exec = Jvm.exec) {pc q : Nat} {Ls : Array Slot} {st : List Value} {k : Fin 4} {v : Int32} {l2 : Array Slot} (hd : decode c.code pc = .ok (.istore_n k, 1)) (hl : storeLocals Ls k.val (.int v) = some l2) (hq : pc + 1 = q) (g : Go p e below Q (T.setTop (mkF m q l2 st))) : Go p e below Q (T.setTop (mkF m pc Ls (.int v :: st))) := by
  subst hq; exact Go.of (fun _ r => XS.istoreN h hx rfl hd rfl hl r) g
theorem Go.lload (h : At T m c below) (hx : p.tables.exec = Jvm.exec) {pc q : Nat} {Ls : Array Slot} {st : List Value} {k : Nat} {v : Int64} (hd : decode c.code pc = .ok (.lload k, 2)) (hl : Ls[k]? = some (.val (.long v))) (hq : pc + 2 = q) (g : Go p e below Q (T.setTop (mkF m q Ls (.long v :: st)))) : Go p e below Q (T.setTop (mkF m pc Ls st)) := by
  subst hq; exact Go.of (fun _ r => XS.lload h hx rfl hd hl r) g
theorem Go.lloadN (h : At T m c below) (hx : p.tables.exec = Jvm.exec) {pc q : Nat} {Ls : Array Slot} {st : List Value} {k : Fin 4} {v : Int64} (hd : decode c.code pc = .ok (.lload_n k, 1)) (hl : Ls[k.val]? = some (.val (.long v))) (hq : pc + 1 = q) (g : Go p e below Q (T.setTop (mkF m q Ls (.long v :: st)))) : Go p e below Q (T.setTop (mkF m pc Ls st)) := by
  subst hq; exact Go.of (fun _ r => XS.lloadN h hx rfl hd hl r) g
theorem Go.lstore (h : At T m c below) (hx : p.tables.exec = Jvm.exec) {pc q : Nat} {Ls : Array Slot} {st : List Value} {k : Nat} {v : Int64} {l2 : Array Slot} (hd : decode c.code pc = .ok (.lstore k, 2)) (hl : storeLocals Ls k (.long v) = some l2) (hq : pc + 2 = q) (g : Go p e below Q (T.setTop (mkF m q l2 st))) : Go p e below Q (T.setTop (mkF m pc Ls (.long v :: st))) := by
  subst hq; exact Go.of (fun _ r => XS.lstore h hx rfl hd rfl hl r) g
theorem Go.lstoreN (h : At T m c below) (hx : p.tables.exec = Jvm.exec) {pc q : Nat} {Ls : Array Slot} {st : List Value} {k : Fin 4} {v : Int64} {l2 : Array Slot} (hd : decode c.code pc = .ok (.lstore_n k, 1)) (hl : storeLocals Ls k.val (.long v) = some l2) (hq : pc + 1 = q) (g : Go p e below Q (T.setTop (mkF m q l2 st))) : Go p e below Q (T.setTop (mkF m pc Ls (.long v :: st))) := by
  subst hq; exact Go.of (fun _ r => XS.lstoreN h hx rfl hd rfl hl r) g
theorem Go.dload (h : At T m c below) (hx : p.tables.exec = Jvm.exec) {pc q : Nat} {Ls : Array Slot} {st : List Value} {k : Nat} {v : UInt64} (hd : decode c.code pc = .ok (.dload k, 2)) (hl : Ls[k]? = some (.val (.double v))) (hq : pc + 2 = q) (g : Go p e below Q (T.setTop (mkF m q Ls (.double v :: st)))) : Go p e below Q (T.setTop (mkF m pc Ls st)) := by
  subst hq; exact Go.of (fun _ r => XS.dload h hx rfl hd hl r) g
theorem Go.dloadN (h : At T m c below) (hx : p.tables.exec = Jvm.exec) {pc q : Nat} {Ls : Array Slot} {st : List Value} {k : Fin 4} {v : UInt64} (hd : decode c.code pc = .ok (.dload_n k, 1)) (hl : Ls[k.val]? = some (.val (.double v))) (hq : pc + 1 = q) (g : Go p e below Q (T.setTop (mkF m q Ls (.double v :: st)))) : Go p e below Q (T.setTop (mkF m pc Ls st)) := by
  subst hq; exact Go.of (fun _ r => XS.dloadN h hx rfl hd hl r) g
theorem Go.dstore (h : At T m c below) (hx : p.tables.exec = Jvm.exec) {pc q : Nat} {Ls : Array Slot} {st : List Value} {k : Nat} {v : UInt64} {l2 : Array Slot} (hd : decode c.code pc = .ok (.dstore k, 2)) (hl : storeLocals Ls k (.double v) = some l2) (hq : pc + 2 = q) (g : Go p e below Q (T.setTop (mkF m q l2 st))) : Go p e below Q (T.setTop (mkF m pc Ls (.double v :: st))) := by
  subst hq; exact Go.of (fun _ r => XS.dstore h hx rfl hd rfl hl r) g
theorem Go.dstoreN (h : At T m c below) (hx : p.tables.exec = Jvm.exec) {pc q : Nat} {Ls : Array Slot} {st : List Value} {k : Fin 4} {v : UInt64} {l2 : Array Slot} (hd : decode c.code pc = .ok (.dstore_n k, 1)) (hl : storeLocals Ls k.val (.double v) = some l2) (hq : pc + 1 = q) (g : Go p e below Q (T.setTop (mkF m q l2 st))) : Go p e below Q (T.setTop (mkF m pc Ls (.double v :: st))) := by
  subst hq; exact Go.of (fun _ r => XS.dstoreN h hx rfl hd rfl hl r) g
theorem Go.fload (h : At T m c below) (hx : p.tables.exec = Jvm.exec) {pc q : Nat} {Ls : Array Slot} {st : List Value} {k : Nat} {v : UInt32} (hd : decode c.code pc = .ok (.fload k, 2)) (hl : Ls[k]? = some (.val (.float v))) (hq : pc + 2 = q) (g : Go p e below Q (T.setTop (mkF m q Ls (.float v :: st)))) : Go p e below Q (T.setTop (mkF m pc Ls st)) := by
  subst hq; exact Go.of (fun _ r => XS.fload h hx rfl hd hl r) g
theorem Go.floadN (h : At T m c below) (hx : p.tables.exec = Jvm.exec) {pc q : Nat} {Ls : Array Slot} {st : List Value} {k : Fin 4} {v : UInt32} (hd : decode c.code pc = .ok (.fload_n k, 1)) (hl : Ls[k.val]? = some (.val (.float v))) (hq : pc + 1 = q) (g : Go p e below Q (T.setTop (mkF m q Ls (.float v :: st)))) : Go p e below Q (T.setTop (mkF m pc Ls st)) := by
  subst hq; exact Go.of (fun _ r => XS.floadN h hx rfl hd hl r) g
theorem Go.fstore (h : At T m c below) (hx : p.tables.exec = Jvm.exec) {pc q : Nat} {Ls : Array Slot} {st : List Value} {k : Nat} {v : UInt32} {l2 : Array Slot} (hd : decode c.code pc = .ok (.fstore k, 2)) (hl : storeLocals Ls k (.float v) = some l2) (hq : pc + 2 = q) (g : Go p e below Q (T.setTop (mkF m q l2 st))) : Go p e below Q (T.setTop (mkF m pc Ls (.float v :: st))) := by
  subst hq; exact Go.of (fun _ r => XS.fstore h hx rfl hd rfl hl r) g
theorem Go.fstoreN (h : At T m c below) (hx : p.tables.exec = Jvm.exec) {pc q : Nat} {Ls : Array Slot} {st : List Value} {k : Fin 4} {v : UInt32} {l2 : Array Slot} (hd : decode c.code pc = .ok (.fstore_n k, 1)) (hl : storeLocals Ls k.val (.float v) = some l2) (hq : pc + 1 = q) (g : Go p e below Q (T.setTop (mkF m q l2 st))) : Go p e below Q (T.setTop (mkF m pc Ls (.float v :: st))) := by
  subst hq; exact Go.of (fun _ r => XS.fstoreN h hx rfl hd rfl hl r) g
theorem Go.aload (h : At T m c below) (hx : p.tables.exec = Jvm.exec) {pc q : Nat} {Ls : Array Slot} {st : List Value} {k : Nat} {v : Value} (hd : decode c.code pc = .ok (.aload k, 2)) (hl : Ls[k]? = some (.val v)) (hv : v.isRef = true) (hq : pc + 2 = q) (g : Go p e below Q (T.setTop (mkF m q Ls (v :: st)))) : Go p e below Q (T.setTop (mkF m pc Ls st)) := by
  subst hq; exact Go.of (fun _ r => XS.aload h hx rfl hd hl hv r) g
theorem Go.aloadN (h : At T m c below) (hx : p.tables.exec = Jvm.exec) {pc q : Nat} {Ls : Array Slot} {st : List Value} {k : Fin 4} {v : Value} (hd : decode c.code pc = .ok (.aload_n k, 1)) (hl : Ls[k.val]? = some (.val v)) (hv : v.isRef = true) (hq : pc + 1 = q) (g : Go p e below Q (T.setTop (mkF m q Ls (v :: st)))) : Go p e below Q (T.setTop (mkF m pc Ls st)) := by
  subst hq; exact Go.of (fun _ r => XS.aloadN h hx rfl hd hl hv r) g
theorem Go.astore (h : At T m c below) (hx : p.tables.exec = Jvm.exec) {pc q : Nat} {Ls : Array Slot} {st : List Value} {k : Nat} {v : Value} {l2 : Array Slot} (hd : decode c.code pc = .ok (.astore k, 2)) (hv : v.isRef = true) (hl : storeLocals Ls k v = some l2) (hq : pc + 2 = q) (g : Go p e below Q (T.setTop (mkF m q l2 st))) : Go p e below Q (T.setTop (mkF m pc Ls (v :: st))) := by
  subst hq; exact Go.of (fun _ r => XS.astore h hx rfl hd rfl hv hl r) g
theorem Go.astoreN (h : At T m c below) (hx : p.tables.exec = Jvm.exec) {pc q : Nat} {Ls : Array Slot} {st : List Value} {k : Fin 4} {v : Value} {l2 : Array Slot} (hd : decode c.code pc = .ok (.astore_n k, 1)) (hv : v.isRef = true) (hl : storeLocals Ls k.val v = some l2) (hq : pc + 1 = q) (g : Go p e below Q (T.setTop (mkF m q l2 st))) : Go p e below Q (T.setTop (mkF m pc Ls (v :: st))) := by
  subst hq; exact Go.of (fun _ r => XS.astoreN h hx rfl hd rfl hv hl r) g
theorem Go.iconst (h : At T m c below) (hx : p.tables.exec = Jvm.exec) {pc q : Nat} {Ls : Array Slot} {st : List Value} {i : Int} {v : Int32} (hd : decode c.code pc = .ok (.iconst i, 1)) (hv : Int32.ofInt i = v) (hq : pc + 1 = q) (g : Go p e below Q (T.setTop (mkF m q Ls (.int v :: st)))) : Go p e below Q (T.setTop (mkF m pc Ls st)) := by
  subst hq hv; exact Go.of (fun _ r => XS.iconst h hx rfl hd r) g
theorem Go.bipush (h : At T m c below) (hx : p.tables.exec = Jvm.exec) {pc q : Nat} {Ls : Array Slot} {st : List Value} {i : Int} {v : Int32} (hd : decode c.code pc = .ok (.bipush i, 2)) (hv : (Int8.ofInt i).toInt32 = v) (hq : pc + 2 = q) (g : Go p e below Q (T.setTop (mkF m q Ls (.int v :: st)))) : Go p e below Q (T.setTop (mkF m pc Ls st)) := by
  subst hq hv; exact Go.of (fun _ r => XS.bipush h hx rfl hd r) g
theorem Go.sipush (h : At T m c below) (hx : p.tables.exec = Jvm.exec) {pc q : Nat} {Ls : Array Slot} {st : List Value} {i : Int} {v : Int32} (hd : decode c.code pc = .ok (.sipush i, 3)) (hv : (Int16.ofInt i).toInt32 = v) (hq : pc + 3 = q) (g : Go p e below Q (T.setTop (mkF m q Ls (.int v :: st)))) : Go p e below Q (T.setTop (mkF m pc Ls st)) := by
  subst hq hv; exact Go.of (fun _ r => XS.sipush h hx rfl hd r) g
theorem Go.lconst (h : At T m c below) (hx : p.tables.exec = Jvm.exec) {pc q : Nat} {Ls : Array Slot} {st : List Value} {k : Fin 2} {v : Int64} (hd : decode c.code pc = .ok (.lconst k, 1)) (hv : Int64.ofNat k = v) (hq : pc + 1 = q) (g : Go p e below Q (T.setTop (mkF m q Ls (.long v :: st)))) : Go p e below Q (T.setTop (mkF m pc Ls st)) := by
  subst hq hv; exact Go.of (fun _ r => XS.lconst h hx rfl hd r) g
theorem Go.aconst (h : At T m c below) (hx : p.tables.exec = Jvm.exec) {pc q : Nat} {Ls : Array Slot} {st : List Value}  (hd : decode c.code pc = .ok (.aconst_null, 1)) (hq : pc + 1 = q) (g : Go p e below Q (T.setTop (mkF m q Ls (.null :: st)))) : Go p e below Q (T.setTop (mkF m pc Ls st)) := by
  subst hq; exact Go.of (fun _ r => XS.aconstNull h hx rfl hd r) g
theorem Go.dconst0 (h : At T m c below) (hx : p.tables.exec = Jvm.exec) {pc q : Nat} {Ls : Array Slot} {st : List Value} {v : UInt64} (hd : decode c.code pc = .ok (.dconst 0, 1)) (hv : FP.dconst0 = v) (hq : pc + 1 = q) (g : Go p e below Q (T.setTop (mkF m q Ls (.double v :: st)))) : Go p e below Q (T.setTop (mkF m pc Ls st)) := by
  subst hq; exact Go.of (fun _ r => XS.dconst0 h hx rfl hd hv r) g
theorem Go.dconst1 (h : At T m c below) (hx : p.tables.exec = Jvm.exec) {pc q : Nat} {Ls : Array Slot} {st : List Value} {v : UInt64} (hd : decode c.code pc = .ok (.dconst 1, 1)) (hv : FP.dconst1 = v) (hq : pc + 1 = q) (g : Go p e below Q (T.setTop (mkF m q Ls (.double v :: st)))) : Go p e below Q (T.setTop (mkF m pc Ls st)) := by
  subst hq; exact Go.of (fun _ r => XS.dconst1 h hx rfl hd hv r) g
theorem Go.fconst0 (h : At T m c below) (hx : p.tables.exec = Jvm.exec) {pc q : Nat} {Ls : Array Slot} {st : List Value} {v : UInt32} (hd : decode c.code pc = .ok (.fconst 0, 1)) (hv : FP.fconst0 = v) (hq : pc + 1 = q) (g : Go p e below Q (T.setTop (mkF m q Ls (.float v :: st)))) : Go p e below Q (T.setTop (mkF m pc Ls st)) := by
  subst hq; exact Go.of (fun _ r => XS.fconst0 h hx rfl hd hv r) g
theorem Go.fconst1 (h : At T m c below) (hx : p.tables.exec = Jvm.exec) {pc q : Nat} {Ls : Array Slot} {st : List Value} {v : UInt32} (hd : decode c.code pc = .ok (.fconst 1, 1)) (hv : FP.fconst1 = v) (hq : pc + 1 = q) (g : Go p e below Q (T.setTop (mkF m q Ls (.float v :: st)))) : Go p e below Q (T.setTop (mkF m pc Ls st)) := by
  subst hq; exact Go.of (fun _ r => XS.fconst1 h hx rfl hd hv r) g
theorem Go.iadd (h : At T m c below) (hx : p.tables.exec = Jvm.exec) {pc q : Nat} {Ls : Array Slot} {st : List Value} {x : Int32} {y : Int32} {v : Int32} (hd : decode c.code pc = .ok (.iadd, 1)) (hv : x + y = v) (hq : pc + 1 = q) (g : Go p e below Q (T.setTop (mkF m q Ls (.int v :: st)))) : Go p e below Q (T.setTop (mkF m pc Ls (.int y :: .int x :: st))) := by
  subst hq hv; exact Go.of (fun _ r => XS.iadd h hx rfl hd rfl r) g
theorem Go.isub (h : At T m c below) (hx : p.tables.exec = Jvm.exec) {pc q : Nat} {Ls : Array Slot} {st : List Value} {x : Int32} {y : Int32} {v : Int32} (hd : decode c.code pc = .ok (.isub, 1)) (hv : x - y = v) (hq : pc + 1 = q) (g : Go p e below Q (T.setTop (mkF m q Ls (.int v :: st)))) : Go p e below Q (T.setTop (mkF m pc Ls (.int y :: .int x :: st))) := by
  subst hq hv; exact Go.of (fun _ r => XS.isub h hx rfl hd rfl r) g
theorem Go.iand (h : At T m c below) (hx : p.tables.exec = Jvm.exec) {pc q : Nat} {Ls : Array Slot} {st : List Value} {x : Int32} {y : Int32} {v : Int32} (hd : decode c.code pc = .ok (.iand, 1)) (hv : x &&& y = v) (hq : pc + 1 = q) (g : Go p e below Q (T.setTop (mkF m q Ls (.int v :: st)))) : Go p e below Q (T.setTop (mkF m pc Ls (.int y :: .int x :: st))) := by
  subst hq hv; exact Go.of (fun _ r => XS.iand h hx rfl hd rfl r) g
theorem Go.imul (h : At T m c below) (hx : p.tables.exec = Jvm.exec) {pc q : Nat} {Ls : Array Slot} {st : List Value} {x : Int32} {y : Int32} {v : Int32} (hd : decode c.code pc = .ok (.imul, 1)) (hv : x * y = v) (hq : pc + 1 = q) (g : Go p e below Q (T.setTop (mkF m q Ls (.int v :: st)))) : Go p e below Q (T.setTop (mkF m pc Ls (.int y :: .int x :: st))) := by
  subst hq hv; exact Go.of (fun _ r => XS.imul h hx rfl hd rfl r) g
theorem Go.ixor (h : At T m c below) (hx : p.tables.exec = Jvm.exec) {pc q : Nat} {Ls : Array Slot} {st : List Value} {x : Int32} {y : Int32} {v : Int32} (hd : decode c.code pc = .ok (.ixor, 1)) (hv : x ^^^ y = v) (hq : pc + 1 = q) (g : Go p e below Q (T.setTop (mkF m q Ls (.int v :: st)))) : Go p e below Q (T.setTop (mkF m pc Ls (.int y :: .int x :: st))) := by
  subst hq hv; exact Go.of (fun _ r => XS.ixor h hx rfl hd rfl r) g
theorem Go.ior (h : At T m c below) (hx : p.tables.exec = Jvm.exec) {pc q : Nat} {Ls : Array Slot} {st : List Value} {x : Int32} {y : Int32} {v : Int32} (hd : decode c.code pc = .ok (.ior, 1)) (hv : x ||| y = v) (hq : pc + 1 = q) (g : Go p e below Q (T.setTop (mkF m q Ls (.int v :: st)))) : Go p e below Q (T.setTop (mkF m pc Ls (.int y :: .int x :: st))) := by
  subst hq hv; exact Go.of (fun _ r => XS.ior h hx rfl hd rfl r) g
theorem Go.ishl (h : At T m c below) (hx : p.tables.exec = Jvm.exec) {pc q : Nat} {Ls : Array Slot} {st : List Value} {x : Int32} {y : Int32} {v : Int32} (hd : decode c.code pc = .ok (.ishl, 1)) (hv : x <<< (y &&& 31) = v) (hq : pc + 1 = q) (g : Go p e below Q (T.setTop (mkF m q Ls (.int v :: st)))) : Go p e below Q (T.setTop (mkF m pc Ls (.int y :: .int x :: st))) := by
  subst hq hv; exact Go.of (fun _ r => XS.ishl h hx rfl hd rfl r) g
theorem Go.ishr (h : At T m c below) (hx : p.tables.exec = Jvm.exec) {pc q : Nat} {Ls : Array Slot} {st : List Value} {x : Int32} {y : Int32} {v : Int32} (hd : decode c.code pc = .ok (.ishr, 1)) (hv : x >>> (y &&& 31) = v) (hq : pc + 1 = q) (g : Go p e below Q (T.setTop (mkF m q Ls (.int v :: st)))) : Go p e below Q (T.setTop (mkF m pc Ls (.int y :: .int x :: st))) := by
  subst hq hv; exact Go.of (fun _ r => XS.ishr h hx rfl hd rfl r) g
theorem Go.iushr (h : At T m c below) (hx : p.tables.exec = Jvm.exec) {pc q : Nat} {Ls : Array Slot} {st : List Value} {x : Int32} {y : Int32} {v : Int32} (hd : decode c.code pc = .ok (.iushr, 1)) (hv : (x.toUInt32 >>> (y &&& 31).toUInt32).toInt32 = v) (hq : pc + 1 = q) (g : Go p e below Q (T.setTop (mkF m q Ls (.int v :: st)))) : Go p e below Q (T.setTop (mkF m pc Ls (.int y :: .int x :: st))) := by
  subst hq hv; exact Go.of (fun _ r => XS.iushr h hx rfl hd rfl r) g
theorem Go.idiv (h : At T m c below) (hx : p.tables.exec = Jvm.exec) {pc q : Nat} {Ls : Array Slot} {st : List Value} {x : Int32} {y : Int32} {v : Int32} (hd : decode c.code pc = .ok (.idiv, 1)) (hy : y ≠ 0) (hv : x / y = v) (hq : pc + 1 = q) (g : Go p e below Q (T.setTop (mkF m q Ls (.int v :: st)))) : Go p e below Q (T.setTop (mkF m pc Ls (.int y :: .int x :: st))) := by
  subst hq hv; exact Go.of (fun _ r => XS.idiv h hx rfl hd rfl hy r) g
theorem Go.irem (h : At T m c below) (hx : p.tables.exec = Jvm.exec) {pc q : Nat} {Ls : Array Slot} {st : List Value} {x : Int32} {y : Int32} {v : Int32} (hd : decode c.code pc = .ok (.irem, 1)) (hy : y ≠ 0) (hv : x - (x / y) * y = v) (hq : pc + 1 = q) (g : Go p e below Q (T.setTop (mkF m q Ls (.int v :: st)))) : Go p e below Q (T.setTop (mkF m pc Ls (.int y :: .int x :: st))) := by
  subst hq hv; exact Go.of (fun _ r => XS.irem h hx rfl hd rfl hy r) g
theorem Go.ladd (h : At T m c below) (hx : p.tables.exec = Jvm.exec) {pc q : Nat} {Ls : Array Slot} {st : List Value} {x : Int64} {y : Int64} {v : Int64} (hd : decode c.code pc = .ok (.ladd, 1)) (hv : x + y = v) (hq : pc + 1 = q) (g : Go p e below Q (T.setTop (mkF m q Ls (.long v :: st)))) : Go p e below Q (T.setTop (mkF m pc Ls (.long y :: .long x :: st))) := by
  subst hq hv; exact Go.of (fun _ r => XS.ladd h hx rfl hd rfl r) g
theorem Go.lsub (h : At T m c below) (hx : p.tables.exec = Jvm.exec) {pc q : Nat} {Ls : Array Slot} {st : List Value} {x : Int64} {y : Int64} {v : Int64} (hd : decode c.code pc = .ok (.lsub, 1)) (hv : x - y = v) (hq : pc + 1 = q) (g : Go p e below Q (T.setTop (mkF m q Ls (.long v :: st)))) : Go p e below Q (T.setTop (mkF m pc Ls (.long y :: .long x :: st))) := by
  subst hq hv; exact Go.of (fun _ r => XS.lsub h hx rfl hd rfl r) g
theorem Go.lmul (h : At T m c below) (hx : p.tables.exec = Jvm.exec) {pc q : Nat} {Ls : Array Slot} {st : List Value} {x : Int64} {y : Int64} {v : Int64} (hd : decode c.code pc = .ok (.lmul, 1)) (hv : x * y = v) (hq : pc + 1 = q) (g : Go p e below Q (T.setTop (mkF m q Ls (.long v :: st)))) : Go p e below Q (T.setTop (mkF m pc Ls (.long y :: .long x :: st))) := by
  subst hq hv; exact Go.of (fun _ r => XS.lmul h hx rfl hd rfl r) g
theorem Go.land (h : At T m c below) (hx : p.tables.exec = Jvm.exec) {pc q : Nat} {Ls : Array Slot} {st : List Value} {x : Int64} {y : Int64} {v : Int64} (hd : decode c.code pc = .ok (.land, 1)) (hv : x &&& y = v) (hq : pc + 1 = q) (g : Go p e below Q (T.setTop (mkF m q Ls (.long v :: st)))) : Go p e below Q (T.setTop (mkF m pc Ls (.long y :: .long x :: st))) := by
  subst hq hv; exact Go.of (fun _ r => XS.land h hx rfl hd rfl r) g
theorem Go.lor (h : At T m c below) (hx : p.tables.exec = Jvm.exec) {pc q : Nat} {Ls : Array Slot} {st : List Value} {x : Int64} {y : Int64} {v : Int64} (hd : decode c.code pc = .ok (.lor, 1)) (hv : x ||| y = v) (hq : pc + 1 = q) (g : Go p e below Q (T.setTop (mkF m q Ls (.long v :: st)))) : Go p e below Q (T.setTop (mkF m pc Ls (.long y :: .long x :: st))) := by
  subst hq hv; exact Go.of (fun _ r => XS.lor h hx rfl hd rfl r) g
theorem Go.lxor (h : At T m c below) (hx : p.tables.exec = Jvm.exec) {pc q : Nat} {Ls : Array Slot} {st : List Value} {x : Int64} {y : Int64} {v : Int64} (hd : decode c.code pc = .ok (.lxor, 1)) (hv : x ^^^ y = v) (hq : pc + 1 = q) (g : Go p e below Q (T.setTop (mkF m q Ls (.long v :: st)))) : Go p e below Q (T.setTop (mkF m pc Ls (.long y :: .long x :: st))) := by
  subst hq hv; exact Go.of (fun _ r => XS.lxor h hx rfl hd rfl r) g
theorem Go.lshl (h : At T m c below) (hx : p.tables.exec = Jvm.exec) {pc q : Nat} {Ls : Array Slot} {st : List Value} {x : Int64} {y : Int32} {v : Int64} (hd : decode c.code pc = .ok (.lshl, 1)) (hv : x <<< (y &&& 0x3f).toInt64 = v) (hq : pc + 1 = q) (g : Go p e below Q (T.setTop (mkF m q Ls (.long v :: st)))) : Go p e below Q (T.setTop (mkF m pc Ls (.int y :: .long x :: st))) := by
  subst hq hv; exact Go.of (fun _ r => XS.lshl h hx rfl hd rfl r) g
theorem Go.lshr (h : At T m c below) (hx : p.tables.exec = Jvm.exec) {pc q : Nat} {Ls : Array Slot} {st : List Value} {x : Int64} {y : Int32} {v : Int64} (hd : decode c.code pc = .ok (.lshr, 1)) (hv : x >>> (y &&& 0x3f).toInt64 = v) (hq : pc + 1 = q) (g : Go p e below Q (T.setTop (mkF m q Ls (.long v :: st)))) : Go p e below Q (T.setTop (mkF m pc Ls (.int y :: .long x :: st))) := by
  subst hq hv; exact Go.of (fun _ r => XS.lshr h hx rfl hd rfl r) g
theorem Go.lushr (h : At T m c below) (hx : p.tables.exec = Jvm.exec) {pc q : Nat} {Ls : Array Slot} {st : List Value} {x : Int64} {y : Int32} {v : Int64} (hd : decode c.code pc = .ok (.lushr, 1)) (hv : (x.toUInt64 >>> (y &&& 0x3f).toInt64.toUInt64).toInt64 = v) (hq : pc + 1 = q) (g : Go p e below Q (T.setTop (mkF m q Ls (.long v :: st)))) : Go p e below Q (T.setTop (mkF m pc Ls (.int y :: .long x :: st))) := by
  subst hq hv; exact Go.of (fun _ r => XS.lushr h hx rfl hd rfl r) g
theorem Go.ldiv (h : At T m c below) (hx : p.tables.exec = Jvm.exec) {pc q : Nat} {Ls : Array Slot} {st : List Value} {x : Int64} {y : Int64} {v : Int64} (hd : decode c.code pc = .ok (.ldiv, 1)) (hy : y ≠ 0) (hv : x / y = v) (hq : pc + 1 = q) (g : Go p e below Q (T.setTop (mkF m q Ls (.long v :: st)))) : Go p e below Q (T.setTop (mkF m pc Ls (.long y :: .long x :: st))) := by
  subst hq hv; exact Go.of (fun _ r => XS.ldiv h hx rfl hd rfl hy r) g
theorem Go.lrem (h : At T m c below) (hx : p.tables.exec = Jvm.exec) {pc q : Nat} {Ls : Array Slot} {st : List Value} {x : Int64} {y : Int64} {v : Int64} (hd : decode c.code pc = .ok (.lrem, 1)) (hy : y ≠ 0) (hv : x - (x / y) * y = v) (hq : pc + 1 = q) (g : Go p e below Q (T.setTop (mkF m q Ls (.long v :: st)))) : Go p e below Q (T.setTop (mkF m pc Ls (.long y :: .long x :: st))) := by
  subst hq hv; exact Go.of (fun _ r => XS.lrem h hx rfl hd rfl hy r) g
theorem Go.lcmp (h : At T m c below) (hx : p.tables.exec = Jvm.exec) {pc q : Nat} {Ls : Array Slot} {st : List Value} {x : Int64} {y : Int64} {v : Int32} (hd : decode c.code pc = .ok (.lcmp, 1)) (hv : lcmpW x y = v) (hq : pc + 1 = q) (g : Go p e below Q (T.setTop (mkF m q Ls (.int v :: st)))) : Go p e below Q (T.setTop (mkF m pc Ls (.long y :: .long x :: st))) := by
  subst hq hv; exact Go.of (fun _ r => XS.lcmp h hx rfl hd rfl r) g
theorem Go.ineg (h : At T m c below) (hx : p.tables.exec = Jvm.exec) {pc q : Nat} {Ls : Array Slot} {st : List Value} {x : Int32} {v : Int32} (hd : decode c.code pc = .ok (.ineg, 1)) (hv : -x = v) (hq : pc + 1 = q) (g : Go p e below Q (T.setTop (mkF m q Ls (.int v :: st)))) : Go p e below Q (T.setTop (mkF m pc Ls (.int x :: st))) := by
  subst hq hv; exact Go.of (fun _ r => XS.ineg h hx rfl hd rfl r) g
theorem Go.lneg (h : At T m c below) (hx : p.tables.exec = Jvm.exec) {pc q : Nat} {Ls : Array Slot} {st : List Value} {x : Int64} {v : Int64} (hd : decode c.code pc = .ok (.lneg, 1)) (hv : -x = v) (hq : pc + 1 = q) (g : Go p e below Q (T.setTop (mkF m q Ls (.long v :: st)))) : Go p e below Q (T.setTop (mkF m pc Ls (.long x :: st))) := by
  subst hq hv; exact Go.of (fun _ r => XS.lneg h hx rfl hd rfl r) g
theorem Go.i2l (h : At T m c below) (hx : p.tables.exec = Jvm.exec) {pc q : Nat} {Ls : Array Slot} {st : List Value} {x : Int32} {v : Int64} (hd : decode c.code pc = .ok (.i2l, 1)) (hv : x.toInt64 = v) (hq : pc + 1 = q) (g : Go p e below Q (T.setTop (mkF m q Ls (.long v :: st)))) : Go p e below Q (T.setTop (mkF m pc Ls (.int x :: st))) := by
  subst hq hv; exact Go.of (fun _ r => XS.i2l h hx rfl hd rfl r) g
theorem Go.l2i (h : At T m c below) (hx : p.tables.exec = Jvm.exec) {pc q : Nat} {Ls : Array Slot} {st : List Value} {x : Int64} {v : Int32} (hd : decode c.code pc = .ok (.l2i, 1)) (hv : x.toInt32 = v) (hq : pc + 1 = q) (g : Go p e below Q (T.setTop (mkF m q Ls (.int v :: st)))) : Go p e below Q (T.setTop (mkF m pc Ls (.long x :: st))) := by
  subst hq hv; exact Go.of (fun _ r => XS.l2i h hx rfl hd rfl r) g
theorem Go.i2d (h : At T m c below) (hx : p.tables.exec = Jvm.exec) {pc q : Nat} {Ls : Array Slot} {st : List Value} {x : Int32} {v : UInt64} (hd : decode c.code pc = .ok (.i2d, 1)) (hv : FP.i2d x = v) (hq : pc + 1 = q) (g : Go p e below Q (T.setTop (mkF m q Ls (.double v :: st)))) : Go p e below Q (T.setTop (mkF m pc Ls (.int x :: st))) := by
  subst hq; exact Go.of (fun _ r => XS.i2dS h hx rfl hd rfl hv r) g
theorem Go.l2d (h : At T m c below) (hx : p.tables.exec = Jvm.exec) {pc q : Nat} {Ls : Array Slot} {st : List Value} {x : Int64} {v : UInt64} (hd : decode c.code pc = .ok (.l2d, 1)) (hv : FP.l2d x = v) (hq : pc + 1 = q) (g : Go p e below Q (T.setTop (mkF m q Ls (.double v :: st)))) : Go p e below Q (T.setTop (mkF m pc Ls (.long x :: st))) := by
  subst hq; exact Go.of (fun _ r => XS.l2dS h hx rfl hd rfl hv r) g
theorem Go.d2i (h : At T m c below) (hx : p.tables.exec = Jvm.exec) {pc q : Nat} {Ls : Array Slot} {st : List Value} {x : UInt64} {v : Int32} (hd : decode c.code pc = .ok (.d2i, 1)) (hv : FP.d2i x = v) (hq : pc + 1 = q) (g : Go p e below Q (T.setTop (mkF m q Ls (.int v :: st)))) : Go p e below Q (T.setTop (mkF m pc Ls (.double x :: st))) := by
  subst hq; exact Go.of (fun _ r => XS.d2iS h hx rfl hd rfl hv r) g
theorem Go.d2l (h : At T m c below) (hx : p.tables.exec = Jvm.exec) {pc q : Nat} {Ls : Array Slot} {st : List Value} {x : UInt64} {v : Int64} (hd : decode c.code pc = .ok (.d2l, 1)) (hv : FP.d2l x = v) (hq : pc + 1 = q) (g : Go p e below Q (T.setTop (mkF m q Ls (.long v :: st)))) : Go p e below Q (T.setTop (mkF m pc Ls (.double x :: st))) := by
  subst hq; exact Go.of (fun _ r => XS.d2lS h hx rfl hd rfl hv r) g
theorem Go.dneg (h : At T m c below) (hx : p.tables.exec = Jvm.exec) {pc q : Nat} {Ls : Array Slot} {st : List Value} {x : UInt64} {v : UInt64} (hd : decode c.code pc = .ok (.dneg, 1)) (hv : FP.dneg x = v) (hq : pc + 1 = q) (g : Go p e below Q (T.setTop (mkF m q Ls (.double v :: st)))) : Go p e below Q (T.setTop (mkF m pc Ls (.double x :: st))) := by
  subst hq; exact Go.of (fun _ r => XS.dnegS h hx rfl hd rfl hv r) g
theorem Go.i2f (h : At T m c below) (hx : p.tables.exec = Jvm.exec) {pc q : Nat} {Ls : Array Slot} {st : List Value} {x : Int32} {v : UInt32} (hd : decode c.code pc = .ok (.i2f, 1)) (hv : FP.i2f x = v) (hq : pc + 1 = q) (g : Go p e below Q (T.setTop (mkF m q Ls (.float v :: st)))) : Go p e below Q (T.setTop (mkF m pc Ls (.int x :: st))) := by
  subst hq; exact Go.of (fun _ r => XS.i2fS h hx rfl hd rfl hv r) g
theorem Go.l2f (h : At T m c below) (hx : p.tables.exec = Jvm.exec) {pc q : Nat} {Ls : Array Slot} {st : List Value} {x : Int64} {v : UInt32} (hd : decode c.code pc = .ok (.l2f, 1)) (hv : FP.l2f x = v) (hq : pc + 1 = q) (g : Go p e below Q (T.setTop (mkF m q Ls (.float v :: st)))) : Go p e below Q (T.setTop (mkF m pc Ls (.long x :: st))) := by
  subst hq; exact Go.of (fun _ r => XS.l2fS h hx rfl hd rfl hv r) g
theorem Go.dadd (h : At T m c below) (hx : p.tables.exec = Jvm.exec) {pc q : Nat} {Ls : Array Slot} {st : List Value} {x y v : UInt64} (hd : decode c.code pc = .ok (.dadd, 1)) (hn : NoNaN64 (FP.dadd x y)) (hv : FP.dadd x y = v) (hq : pc + 1 = q) (g : Go p e below Q (T.setTop (mkF m q Ls (.double v :: st)))) : Go p e below Q (T.setTop (mkF m pc Ls (.double y :: .double x :: st))) := by
  subst hq; exact Go.of (fun _ r => XS.daddS h hx rfl hd rfl hn hv r) g
theorem Go.dsub (h : At T m c below) (hx : p.tables.exec = Jvm.exec) {pc q : Nat} {Ls : Array Slot} {st : List Value} {x y v : UInt64} (hd : decode c.code pc = .ok (.dsub, 1)) (hn : NoNaN64 (FP.dsub x y)) (hv : FP.dsub x y = v) (hq : pc + 1 = q) (g : Go p e below Q (T.setTop (mkF m q Ls (.double v :: st)))) : Go p e below Q (T.setTop (mkF m pc Ls (.double y :: .double x :: st))) := by
  subst hq; exact Go.of (fun _ r => XS.dsubS h hx rfl hd rfl hn hv r) g
theorem Go.dmul (h : At T m c below) (hx : p.tables.exec = Jvm.exec) {pc q : Nat} {Ls : Array Slot} {st : List Value} {x y v : UInt64} (hd : decode c.code pc = .ok (.dmul, 1)) (hn : NoNaN64 (FP.dmul x y)) (hv : FP.dmul x y = v) (hq : pc + 1 = q) (g : Go p e below Q (T.setTop (mkF m q Ls (.double v :: st)))) : Go p e below Q (T.setTop (mkF m pc Ls (.double y :: .double x :: st))) := by
  subst hq; exact Go.of (fun _ r => XS.dmulS h hx rfl hd rfl hn hv r) g
theorem Go.ddiv (h : At T m c below) (hx : p.tables.exec = Jvm.exec) {pc q : Nat} {Ls : Array Slot} {st : List Value} {x y v : UInt64} (hd : decode c.code pc = .ok (.ddiv, 1)) (hn : NoNaN64 (FP.ddiv x y)) (hv : FP.ddiv x y = v) (hq : pc + 1 = q) (g : Go p e below Q (T.setTop (mkF m q Ls (.double v :: st)))) : Go p e below Q (T.setTop (mkF m pc Ls (.double y :: .double x :: st))) := by
  subst hq; exact Go.of (fun _ r => XS.ddivS h hx rfl hd rfl hn hv r) g
theorem Go.dcmp (h : At T m c below) (hx : p.tables.exec = Jvm.exec) {pc q : Nat} {Ls : Array Slot} {st : List Value} {o : CmpOp} {x y : UInt64} {v : Int32} (hd : decode c.code pc = .ok (.dcmp o, 1)) (hv : cmpValue (FP.dcmp x y) o = v) (hq : pc + 1 = q) (g : Go p e below Q (T.setTop (mkF m q Ls (.int v :: st)))) : Go p e below Q (T.setTop (mkF m pc Ls (.double y :: .double x :: st))) := by
  subst hq; exact Go.of (fun _ r => XS.dcmpS h hx rfl hd rfl hv r) g
theorem Go.fcmp (h : At T m c below) (hx : p.tables.exec = Jvm.exec) {pc q : Nat} {Ls : Array Slot} {st : List Value} {o : CmpOp} {x y : UInt32} {v : Int32} (hd : decode c.code pc = .ok (.fcmp o, 1)) (hv : cmpValue (FP.fcmp x y) o = v) (hq : pc + 1 = q) (g : Go p e below Q (T.setTop (mkF m q Ls (.int v :: st)))) : Go p e below Q (T.setTop (mkF m pc Ls (.float y :: .float x :: st))) := by
  subst hq; exact Go.of (fun _ r => XS.fcmpS h hx rfl hd rfl hv r) g
theorem Go.dup (h : At T m c below) (hx : p.tables.exec = Jvm.exec) {pc q : Nat} {Ls : Array Slot} {st : List Value} {v : Value} (hd : decode c.code pc = .ok (.dup, 1)) (hc : v.category = 1) (hq : pc + 1 = q) (g : Go p e below Q (T.setTop (mkF m q Ls (v :: v :: st)))) : Go p e below Q (T.setTop (mkF m pc Ls (v :: st))) := by
  subst hq; exact Go.of (fun _ r => XS.dup h hx rfl hd rfl hc r) g
theorem Go.dup2 (h : At T m c below) (hx : p.tables.exec = Jvm.exec) {pc q : Nat} {Ls : Array Slot} {st : List Value} {v w : Value} (hd : decode c.code pc = .ok (.dup2, 1)) (hc : v.category = 1) (hc2 : w.category = 1) (hq : pc + 1 = q) (g : Go p e below Q (T.setTop (mkF m q Ls (v :: w :: v :: w :: st)))) : Go p e below Q (T.setTop (mkF m pc Ls (v :: w :: st))) := by
  subst hq; exact Go.of (fun _ r => Jvm.Free.XT.dup2 h hx rfl hd rfl hc hc2 r) g
theorem Go.pop (h : At T m c below) (hx : p.tables.exec = Jvm.exec) {pc q : Nat} {Ls : Array Slot} {st : List Value} {v : Value} (hd : decode c.code pc = .ok (.pop, 1)) (hc : v.category = 1) (hq : pc + 1 = q) (g : Go p e below Q (T.setTop (mkF m q Ls st))) : Go p e below Q (T.setTop (mkF m pc Ls (v :: st))) := by
  subst hq; exact Go.of (fun _ r => XS.pop h hx rfl hd rfl hc r) g
theorem step_dup2x1 {tb : Tables} [Ours tb] {target : State} {g : JFrame} (h : At T m c below) (hx : tb.exec = Jvm.exec) (hg : g.method = m) {x : Int64} {b : Value} {rest : List Value} (hd : decode c.code g.pc = .ok (.dup2_x1, 1)) (hs : g.stack = .long x :: b :: rest) (hb : b.category = 1)
    (hr : Steps tb e below (T.setTop { g with pc := g.pc + 1, stack := .long x :: b :: .long x :: rest }) target) : Steps tb e below (T.setTop g) target := by
  subst hg
  jvm_step h [h.top, hx, hd, hs, hb, Value.category]
  exact ⟨hb, hr⟩
theorem Go.dup2x1 (h : At T m c below) (hx : p.tables.exec = Jvm.exec) {pc q : Nat} {Ls : Array Slot} {st : List Value} {x : Int64} {b : Value} (hd : decode c.code pc = .ok (.dup2_x1, 1)) (hb : b.category = 1) (hq : pc + 1 = q) (g : Go p e below Q (T.setTop (mkF m q Ls (.long x :: b :: .long x :: st)))) : Go p e below Q (T.setTop (mkF m pc Ls (.long x :: b :: st))) := by
  subst hq; exact Go.of (fun _ r => step_dup2x1 h hx rfl hd rfl hb r) g
theorem Go.iinc (h : At T m c below) (hx : p.tables.exec = Jvm.exec) {pc q : Nat} {Ls : Array Slot} {st : List Value} {k : Nat} {cst : Int} {x v : Int32} {l2 : Array Slot} (hd : decode c.code pc = .ok (.iinc k cst, 3)) (hl : Ls[k]? = some (.val (.int x))) (hv : x + Int32.ofInt cst = v) (hl2 : storeLocals Ls k (.int v) = some l2) (hq : pc + 3 = q) (g : Go p e below Q (T.setTop (mkF m q l2 st))) : Go p e below Q (T.setTop (mkF m pc Ls st)) := by
  subst hq hv; exact Go.of (fun _ r => XS.iinc h hx rfl hd hl hl2 r) g
theorem Go.goto (h : At T m c below) (hx : p.tables.exec = Jvm.exec) {pc q : Nat} {Ls : Array Slot} {st : List Value} {o : Int} (hd : decode c.code pc = .ok (.goto o, 3)) (ho : 0 ≤ (pc : Int) + o) (hq : ((pc : Int) + o).toNat = q) (g : Go p e below Q (T.setTop (mkF m q Ls st))) : Go p e below Q (T.setTop (mkF m pc Ls st)) := Go.of (fun _ r => XS.goto h hx rfl rfl hd ho hq r) g
theorem Go.ifY (h : At T m c below) (hx : p.tables.exec = Jvm.exec) {pc q : Nat} {Ls : Array Slot} {st : List Value} {cd : ClassFile.Cond} {x : Int32} {o : Int} (hd : decode c.code pc = .ok (.ifCond cd o, 3)) (hc : ifCond.holds cd x = true) (ho : 0 ≤ (pc : Int) + o) (hq : ((pc : Int) + o).toNat = q) (g : Go p e below Q (T.setTop (mkF m q Ls st))) : Go p e below Q (T.setTop (mkF m pc Ls (.int x :: st))) := Go.of (fun _ r => XS.ifYes h hx rfl rfl hd rfl hc ho hq r) g
theorem Go.ifN (h : At T m c below) (hx : p.tables.exec = Jvm.exec) {pc q : Nat} {Ls : Array Slot} {st : List Value} {cd : ClassFile.Cond} {x : Int32} {o : Int} (hd : decode c.code pc = .ok (.ifCond cd o, 3)) (hc : ifCond.holds cd x = false) (hq : pc + 3 = q) (g : Go p e below Q (T.setTop (mkF m q Ls st))) : Go p e below Q (T.setTop (mkF m pc Ls (.int x :: st))) := by
  subst hq; exact Go.of (fun _ r => XS.ifNo h hx rfl hd rfl hc r) g
theorem Go.icmpY (h : At T m c below) (hx : p.tables.exec = Jvm.exec) {pc q : Nat} {Ls : Array Slot} {st : List Value} {cd : ClassFile.Cond} {x y : Int32} {o : Int} (hd : decode c.code pc = .ok (.if_icmp cd o, 3)) (hc : if_icmp.holds cd x y = true) (ho : 0 ≤ (pc : Int) + o) (hq : ((pc : Int) + o).toNat = q) (g : Go p e below Q (T.setTop (mkF m q Ls st))) : Go p e below Q (T.setTop (mkF m pc Ls (.int y :: .int x :: st))) := Go.of (fun _ r => XS.icmpYes h hx rfl rfl hd rfl hc ho hq r) g
theorem Go.icmpN (h : At T m c below) (hx : p.tables.exec = Jvm.exec) {pc q : Nat} {Ls : Array Slot} {st : List Value} {cd : ClassFile.Cond} {x y : Int32} {o : Int} (hd : decode c.code pc = .ok (.if_icmp cd o, 3)) (hc : if_icmp.holds cd x y = false) (hq : pc + 3 = q) (g : Go p e below Q (T.setTop (mkF m q Ls st))) : Go p e below Q (T.setTop (mkF m pc Ls (.int y :: .int x :: st))) := by
  subst hq; exact Go.of (fun _ r => XS.icmpNo h hx rfl hd rfl hc r) g
theorem Go.acmpY (h : At T m c below) (hx : p.tables.exec = Jvm.exec) {pc q : Nat} {Ls : Array Slot} {st : List Value} {cd : ClassFile.ACond} {a b : Addr} {o : Int} (hd : decode c.code pc = .ok (.if_acmp cd o, 3)) (hc : if_acmp.holds cd (some a) (some b) = true) (ho : 0 ≤ (pc : Int) + o) (hq : ((pc : Int) + o).toNat = q) (g : Go p e below Q (T.setTop (mkF m q Ls st))) : Go p e below Q (T.setTop (mkF m pc Ls (.ref b :: .ref a :: st))) := Go.of (fun _ r => XS.acmpYes h hx rfl rfl hd rfl hc ho hq r) g
theorem Go.acmpN (h : At T m c below) (hx : p.tables.exec = Jvm.exec) {pc q : Nat} {Ls : Array Slot} {st : List Value} {cd : ClassFile.ACond} {a b : Addr} {o : Int} (hd : decode c.code pc = .ok (.if_acmp cd o, 3)) (hc : if_acmp.holds cd (some a) (some b) = false) (hq : pc + 3 = q) (g : Go p e below Q (T.setTop (mkF m q Ls st))) : Go p e below Q (T.setTop (mkF m pc Ls (.ref b :: .ref a :: st))) := by
  subst hq; exact Go.of (fun _ r => XS.acmpNo h hx rfl hd rfl hc r) g
theorem Go.nullY (h : At T m c below) (hx : p.tables.exec = Jvm.exec) {pc q : Nat} {Ls : Array Slot} {st : List Value} {o : Int} (hd : decode c.code pc = .ok (.ifnull o, 3)) (ho : 0 ≤ (pc : Int) + o) (hq : ((pc : Int) + o).toNat = q) (g : Go p e below Q (T.setTop (mkF m q Ls st))) : Go p e below Q (T.setTop (mkF m pc Ls (.null :: st))) := Go.of (fun _ r => XS.ifnullYes h hx rfl rfl hd rfl ho hq r) g
theorem Go.nullN (h : At T m c below) (hx : p.tables.exec = Jvm.exec) {pc q : Nat} {Ls : Array Slot} {st : List Value} {o : Int} {b : Addr} (hd : decode c.code pc = .ok (.ifnull o, 3)) (hq : pc + 3 = q) (g : Go p e below Q (T.setTop (mkF m q Ls st))) : Go p e below Q (T.setTop (mkF m pc Ls (.ref b :: st))) := by
  subst hq; exact Go.of (fun _ r => XS.ifnullNo h hx rfl hd rfl r) g
theorem Go.nonnullY (h : At T m c below) (hx : p.tables.exec = Jvm.exec) {pc q : Nat} {Ls : Array Slot} {st : List Value} {o : Int} {b : Addr} (hd : decode c.code pc = .ok (.ifnonnull o, 3)) (ho : 0 ≤ (pc : Int) + o) (hq : ((pc : Int) + o).toNat = q) (g : Go p e below Q (T.setTop (mkF m q Ls st))) : Go p e below Q (T.setTop (mkF m pc Ls (.ref b :: st))) := Go.of (fun _ r => XS.ifnonnullYes h hx rfl rfl hd rfl ho hq r) g
theorem Go.nonnullN (h : At T m c below) (hx : p.tables.exec = Jvm.exec) {pc q : Nat} {Ls : Array Slot} {st : List Value} {o : Int} (hd : decode c.code pc = .ok (.ifnonnull o, 3)) (hq : pc + 3 = q) (g : Go p e below Q (T.setTop (mkF m q Ls st))) : Go p e below Q (T.setTop (mkF m pc Ls (.null :: st))) := by
  subst hq; exact Go.of (fun _ r => XS.ifnonnullNo h hx rfl hd rfl r) g
theorem Go.ldcI (X : Stand p l e R s m args below meth c T locs cells slots) (hx : p.tables.exec = Jvm.exec) {own : String} {index : Nat} {v : Int32} (hown : s.vm.findClass own = some m.cls) (w : (Jvm.Cond.constant own index v).before args s = true) {pc q : Nat} {Ls : Array Slot} {st : List Value} (hd : decode c.code pc = .ok (.ldc index, 2)) (hq : pc + 2 = q) (g : Go p e below Q (T.setTop (mkF m q Ls (.int v :: st)))) : Go p e below Q (T.setTop (mkF m pc Ls st)) := by
  subst hq; exact Go.of (fun _ r => X.ldcInt hx hown w (g := mkF m pc Ls st) rfl hd _ r) g
theorem Go.ldc2J (X : Stand p l e R s m args below meth c T locs cells slots) (hx : p.tables.exec = Jvm.exec) {own : String} {index : Nat} {v : Int64} (hown : s.vm.findClass own = some m.cls) (w : (Jvm.Cond.constantLong own index v).before args s = true) {pc q : Nat} {Ls : Array Slot} {st : List Value} (hd : decode c.code pc = .ok (.ldc2_w index, 3)) (hq : pc + 3 = q) (g : Go p e below Q (T.setTop (mkF m q Ls (.long v :: st)))) : Go p e below Q (T.setTop (mkF m pc Ls st)) := by
  subst hq; exact Go.of (fun _ r => X.ldc2Long hx hown w (g := mkF m pc Ls st) rfl hd _ r) g
theorem Go.ldc2D (X : Stand p l e R s m args below meth c T locs cells slots) (hx : p.tables.exec = Jvm.exec) {own : String} {index : Nat} {v : UInt64} (hown : s.vm.findClass own = some m.cls) (w : (Jvm.Cond.constantDouble own index v).before args s = true) {pc q : Nat} {Ls : Array Slot} {st : List Value} (hd : decode c.code pc = .ok (.ldc2_w index, 3)) (hq : pc + 3 = q) (g : Go p e below Q (T.setTop (mkF m q Ls (.double v :: st)))) : Go p e below Q (T.setTop (mkF m pc Ls st)) := by
  subst hq; exact Go.of (fun _ r => X.ldc2DoubleC hx hown w (g := mkF m pc Ls st) rfl hd _ r) g
theorem Go.ldcF (X : Stand p l e R s m args below meth c T locs cells slots) (hx : p.tables.exec = Jvm.exec) {own : String} {index : Nat} {v : UInt32} (hown : s.vm.findClass own = some m.cls) (w : (Jvm.Cond.constantFloat own index v).before args s = true) {pc q : Nat} {Ls : Array Slot} {st : List Value} (hd : decode c.code pc = .ok (.ldc index, 2)) (hq : pc + 2 = q) (g : Go p e below Q (T.setTop (mkF m q Ls (.float v :: st)))) : Go p e below Q (T.setTop (mkF m pc Ls st)) := by
  subst hq; exact Go.of (fun _ r => X.ldcFloatC hx hown w (g := mkF m pc Ls st) rfl hd _ r) g
end OwnGo

/-! own layer 3: steps that touch the heap, and calls by contract, in the same forward form -/
section OwnHeap
variable {p : Program} {l : Launch} {e : Env} {R : Room} {s : State} {m : MethodId} {args : Array Value} {below : List Frame} {meth : Method} {c : Code} {T : State} {locs : List Loc} {cells slots : Nat} {Q : Outcome → State → Prop} {Z : State} {a0 : Array Value} {h : Heap}
/-- a callee's contract at one call -/
abbrev Con (l : Launch) (Z : State) (y : MethodName) (bytes : ByteArray) (maxL : Nat) (ret : Option FieldType) (rm : Room) (as' : Array Value) (h : Heap) (Qv : Option Value → Heap → List Loc → Prop) : Prop :=
  MetFree l y (head1 [Jvm.Cond.code y bytes maxL ret] rm) (fun a U => a = as' ∧ Z.Warmed39 U.vm ∧ U.heap = h) (fun _ _ _ _ _ => True) (fun _ U o U' => ∃ v L, o = .returned v ∧ Qv v U'.heap L ∧ FrameEnd U o U' L rm.cells rm.slots)
theorem Go.new (X : Stand p l e R s m args below meth c T locs cells slots) (hx : p.tables.exec = Jvm.exec) (hZ : Z.Warmed39 s.vm) {own C : String} {index n : Nat} (hown : s.vm.findClass own = some m.cls) (w : (Jvm.Cond.classLink own index C).before a0 Z = true) (wi : (Jvm.Cond.instantiable C n).before a0 Z = true) (wz : (Jvm.Cond.initialized C).before a0 Z = true) (eT : T.heap = h)
    {pc q : Nat} {Ls : Array Slot} {st : List Value} (hd : decode c.code pc = .ok (.new index, 3)) (hc : cells + 1 ≤ R.cells) (hl : slots + n ≤ R.slots) (hq : pc + 3 = q)
    (k : ∀ (T' : State) (h' : Heap) (a : Addr), a = h.size → Stand p l e R s m args below meth c T' locs (cells + 1) (slots + n) → T'.heap = h' → Ext h h' → Exa Z h' a C → (∀ {O nm d : String} {ty : FieldType}, Laid Z a0 C O nm d → parseFieldDescriptor d = some ty → Fld Z h' a O nm d (defaultValue ty)) →
      Go p e below Q (T'.setTop (mkF m q Ls (.ref a :: st)))) : Go p e below Q (T.setTop (mkF m pc Ls st)) := by
  subst hq
  obtain ⟨T', h', X', e', E', A', D', -, st'⟩ := newO X hx hZ hown w wi wz eT (g := mkF m pc Ls st) rfl hd hc hl
  exact Go.of st' (k T' h' _ rfl X' e' E' A' D')
theorem Go.getf (X : Stand p l e R s m args below meth c T locs cells slots) (hx : p.tables.exec = Jvm.exec) (hZ : Z.Warmed39 s.vm) {own O n d : String} {index : Nat} (hown : s.vm.findClass own = some m.cls) (w : (Jvm.Cond.fieldLink own index O n d).before a0 Z = true) (eT : T.heap = h) {a : Addr} {v : Value} (F : Fld Z h a O n d v)
    {pc q : Nat} {Ls : Array Slot} {st : List Value} (hd : decode c.code pc = .ok (.getfield index, 3)) (hq : pc + 3 = q)
    (k : ∀ T' : State, Stand p l e R s m args below meth c T' locs cells slots → T'.heap = h → Go p e below Q (T'.setTop (mkF m q Ls (v :: st)))) : Go p e below Q (T.setTop (mkF m pc Ls (.ref a :: st))) := by
  subst hq
  obtain ⟨T', X', e', st'⟩ := getF X hx hZ hown (host := "") (Or.inl w) Via.refl eT F (g := mkF m pc Ls (.ref a :: st)) rfl rfl hd
  exact Go.of st' (k T' X' e')
theorem Go.gets (X : Stand p l e R s m args below meth c T locs cells slots) (hx : p.tables.exec = Jvm.exec) (hZ : Z.Warmed39 s.vm) {own O n d : String} {index : Nat} (hown : s.vm.findClass own = some m.cls) (w : (Jvm.Cond.fieldLink own index O n d).before a0 Z = true) (eT : T.heap = h) {v : Value} (F : Sta Z h O n d v)
    {pc q : Nat} {Ls : Array Slot} {st : List Value} (hd : decode c.code pc = .ok (.getstatic index, 3)) (hq : pc + 3 = q)
    (k : ∀ T' : State, Stand p l e R s m args below meth c T' locs cells slots → T'.heap = h → Go p e below Q (T'.setTop (mkF m q Ls (v :: st)))) : Go p e below Q (T.setTop (mkF m pc Ls st)) := by
  subst hq
  obtain ⟨T', X', e', st'⟩ := getS X hx hZ hown (host := "") w Via.refl eT F (g := mkF m pc Ls st) rfl hd
  exact Go.of st' (k T' X' e')
theorem Go.putf (X : Stand p l e R s m args below meth c T locs cells slots) (hx : p.tables.exec = Jvm.exec) (hZ : Z.Warmed39 s.vm) {own O n d C : String} {index kk : Nat} {ty : FieldType} (hown : s.vm.findClass own = some m.cls) (w : (Jvm.Cond.fieldLink own index O n d).before a0 Z = true) (eT : T.heap = h) {a : Addr} {v old : Value} (F : Fld Z h a O n d old) (E : Exa Z h a C)
    (L : (Jvm.Cond.lays C O n d).before a0 Z = true ∨ ((Jvm.Cond.laysFinal C O n d).before a0 Z = true ∧ own = O ∧ meth.name = "<init>")) (wi : (Jvm.Cond.instantiable C kk).before a0 Z = true) (hty : parseFieldDescriptor d = some ty) (hn : narrow ty v = v) (hf : fits ty v = true)
    {pc q : Nat} {Ls : Array Slot} {st : List Value} (hd : decode c.code pc = .ok (.putfield index, 3)) (hq : pc + 3 = q)
    (k : ∀ (T' : State) (h' : Heap), Stand p l e R s m args below meth c T' (locs ++ [⟨a, Jvm.RoadKit.slotOf Z O n d⟩]) cells slots → T'.heap = h' → Wr h h' a (Jvm.RoadKit.slotOf Z O n d) v → Go p e below Q (T'.setTop (mkF m q Ls st))) : Go p e below Q (T.setTop (mkF m pc Ls (v :: .ref a :: st))) := by
  subst hq
  obtain ⟨T', h', X', e', W', st'⟩ := putF X hx hZ hown (host := "") (Or.inl w) Via.refl eT F E L wi hty hn hf (g := mkF m pc Ls (v :: .ref a :: st)) rfl rfl hd
  exact Go.of st' (k T' h' X' e' W')
theorem Go.init (X : Stand p l e R s m args below meth c T locs cells slots) (hx : p.tables.exec = Jvm.exec) (hZ : Z.Warmed39 s.vm) {own : String} {index : Nat} (hown : s.vm.findClass own = some m.cls) (w1 : (Jvm.Cond.methodLink own index Lib.objectInit).before a0 Z = true) (w2 : (Jvm.Cond.instanceMethod Lib.objectInit).before a0 Z = true) (w3 : (Jvm.Cond.code Lib.objectInit ⟨#[0xb1]⟩ 1 none).before a0 Z = true) (eT : T.heap = h)
    {pc q : Nat} {Ls : Array Slot} {st : List Value} {a : Addr} {W : Nat} (hd : decode c.code pc = .ok (.invokespecial index, 3)) (hsz : Ls.size = c.maxLocals) (hf : 1 ≤ R.frames) (hW : (st.map fun v => v.category).sum ≤ W) (hl : W + 12 ≤ R.locals) (hq : pc + 3 = q)
    (k : ∀ T' : State, Stand p l e R s m args below meth c T' locs cells slots → T'.heap = h → Go p e below Q (T'.setTop (mkF m q Ls st))) : Go p e below Q (T.setTop (mkF m pc Ls (.ref a :: st))) := by
  subst hq
  obtain ⟨T', X', e', st'⟩ := initO X hx hZ hown w1 w2 w3 eT (g := mkF m pc Ls (.ref a :: st)) rfl hsz rfl hd hf (W := W) (by show 2 * 0 + _ ≤ _; omega) hl
  exact Go.of st' (k T' X' e')
theorem Go.special (X : Stand p l e R s m args below meth c T locs cells slots) (hx : p.tables.exec = Jvm.exec) (hZ : Z.Warmed39 s.vm) {own : String} {index : Nat} {y : MethodName} (hy1 : y.name = "<init>") (hown : s.vm.findClass own = some m.cls) (w1 : (Jvm.Cond.methodLink own index y).before a0 Z = true) (w2 : (Jvm.Cond.instanceMethod y).before a0 Z = true)
    {bytes : ByteArray} {maxL : Nat} (w3 : (Jvm.Cond.code y bytes maxL none).before a0 Z = true) (wz : (Jvm.Cond.initialized y.cls).before a0 Z = true) (hy : y.cls ≠ "java/lang/invoke/MethodHandle" ∧ y.cls ≠ "java/lang/invoke/VarHandle")
    {rm : Room} {as' : Array Value} {Qv : Option Value → Heap → List Loc → Prop} (hM : Con l Z y bytes maxL none rm as' h Qv) (eT : T.heap = h) {pc q : Nat} {Ls : Array Slot} {st : List Value} {a : Addr} {argsL rest : List Value} {W : Nat} (hd : decode c.code pc = .ok (.invokespecial index, 3))
    (hst : st = argsL.reverse ++ .ref a :: rest) (has : as' = (.ref a :: argsL).toArray) (hlen : ∀ sig, parseMethodDescriptor y.desc = some sig → argsL.length = sig.parameters.length) (hsz : Ls.size = c.maxLocals) (hW : (rest.map fun v => v.category).sum ≤ W)
    (hf : rm.frames + 1 ≤ R.frames) (hl : W + (maxL + 11) + rm.locals ≤ R.locals) (hc : cells + rm.cells ≤ R.cells) (hs : slots + rm.slots ≤ R.slots) (hq : pc + 3 = q)
    (k : ∀ (T' : State) (L : List Loc) (v : Option Value), Stand p l e R s m args below meth c T' (locs ++ L) (cells + rm.cells) (slots + rm.slots) → Qv v T'.heap L → Go p e below Q (T'.setTop (mkF m q Ls (v.toList ++ rest)))) : Go p e below Q (T.setTop (mkF m pc Ls st)) := by
  subst hq hst has
  obtain ⟨v, vm₁, ⟨T', L', k', n'⟩, -, X', ⟨Lc, hQ, l1, y1, z1⟩, st'⟩ := X.specialBack hx (y := y) hy1 hown (mvT hZ w1) (mvT hZ w2) (mvT hZ w3) hy (backOf (W := W) hM hZ w3 wz hf hl) (g := mkF m pc Ls (argsL.reverse ++ .ref a :: rest)) rfl hsz (Steps.refl _) (a := a) (argsL := argsL) (rest := rest) hlen rfl (by show 2 * 0 + _ ≤ _; omega) hd (fun _ _ => ⟨rfl, eT, hc, hs⟩)
  dsimp only [Pt.U, Pt.locs, Pt.cells, Pt.slots] at X' l1 y1 z1 st' hQ
  subst l1 y1 z1
  exact Go.tr st' (k T' Lc v X' hQ)
theorem Go.virtual (X : Stand p l e R s m args below meth c T locs cells slots) (hx : p.tables.exec = Jvm.exec) (hZ : Z.Warmed39 s.vm) {own C : String} {index : Nat} {y : MethodName} (hown : s.vm.findClass own = some m.cls) (w1 : (Jvm.Cond.methodLink own index y).before a0 Z = true) (w2 : (Jvm.Cond.declares y).before a0 Z = true) (w3 : (Jvm.Cond.selects C y y).before a0 Z = true) (w4 : (Jvm.Cond.instanceMethod y).before a0 Z = true)
    {bytes : ByteArray} {maxL : Nat} {ret : Option FieldType} (w5 : (Jvm.Cond.code y bytes maxL ret).before a0 Z = true) (wz : (Jvm.Cond.initialized y.cls).before a0 Z = true) (hy : y.cls ≠ "java/lang/invoke/MethodHandle" ∧ y.cls ≠ "java/lang/invoke/VarHandle")
    {rm : Room} {as' : Array Value} {Qv : Option Value → Heap → List Loc → Prop} (hM : Con l Z y bytes maxL ret rm as' h Qv) (eT : T.heap = h) {a : Addr} (E : Exa Z h a C) {pc q : Nat} {Ls : Array Slot} {st : List Value} {argsL rest : List Value} {W : Nat} (hd : decode c.code pc = .ok (.invokevirtual index, 3))
    (hst : st = argsL.reverse ++ .ref a :: rest) (has : as' = (.ref a :: argsL).toArray) (hlen : ∀ sig, parseMethodDescriptor y.desc = some sig → argsL.length = sig.parameters.length) (hsz : Ls.size = c.maxLocals) (hW : (rest.map fun v => v.category).sum ≤ W)
    (hf : rm.frames + 1 ≤ R.frames) (hl : W + (maxL + 11) + rm.locals ≤ R.locals) (hc : cells + rm.cells ≤ R.cells) (hs : slots + rm.slots ≤ R.slots) (hq : pc + 3 = q)
    (k : ∀ (T' : State) (L : List Loc) (v : Option Value), Stand p l e R s m args below meth c T' (locs ++ L) (cells + rm.cells) (slots + rm.slots) → Qv v T'.heap L → Go p e below Q (T'.setTop (mkF m q Ls (v.toList ++ rest)))) : Go p e below Q (T.setTop (mkF m pc Ls st)) := by
  subst hq hst has
  obtain ⟨cq, kq, qa, -, qc⟩ := isOf hZ eT E
  obtain ⟨v, vm₁, ⟨T', L', k', n'⟩, -, X', ⟨Lc, hQ, l1, y1, z1⟩, st'⟩ := X.virtualBack hx (y := y) (z := y) hown (mvT hZ w1) (mvT hZ w2) (notFace_of_selects (args := #[]) (mvT hZ w3)) (mvT hZ w3) (mvT hZ w4) hy (backOf (W := W) hM hZ w5 wz hf hl) qa qc (g := mkF m pc Ls (argsL.reverse ++ .ref a :: rest)) rfl hsz (Steps.refl _) (argsL := argsL) (rest := rest) hlen rfl (by show 2 * 0 + _ ≤ _; omega) hd (fun _ _ => ⟨rfl, eT, hc, hs⟩)
  dsimp only [Pt.U, Pt.locs, Pt.cells, Pt.slots] at X' l1 y1 z1 st' hQ
  subst l1 y1 z1
  exact Go.tr st' (k T' Lc v X' hQ)
theorem Go.static (X : Stand p l e R s m args below meth c T locs cells slots) (hx : p.tables.exec = Jvm.exec) (hZ : Z.Warmed39 s.vm) {own : String} {index : Nat} {y : MethodName} (hown : s.vm.findClass own = some m.cls) (w1 : (Jvm.Cond.methodLink own index y).before a0 Z = true) (w2 : (Jvm.Cond.static y).before a0 Z = true)
    {bytes : ByteArray} {maxL : Nat} {ret : Option FieldType} (w3 : (Jvm.Cond.code y bytes maxL ret).before a0 Z = true) (wz : (Jvm.Cond.initialized y.cls).before a0 Z = true) (hy : y.cls ≠ "java/lang/invoke/MethodHandle" ∧ y.cls ≠ "java/lang/invoke/VarHandle")
    {rm : Room} {as' : Array Value} {Qv : Option Value → Heap → List Loc → Prop} (hM : Con l Z y bytes maxL ret rm as' h Qv) (eT : T.heap = h) {pc q : Nat} {Ls : Array Slot} {st : List Value} {argsL rest : List Value} {W : Nat} (hd : decode c.code pc = .ok (.invokestatic index, 3))
    (hst : st = argsL.reverse ++ rest) (has : as' = argsL.toArray) (hlen : ∀ sig, parseMethodDescriptor y.desc = some sig → argsL.length = sig.parameters.length) (hsz : Ls.size = c.maxLocals) (hW : (rest.map fun v => v.category).sum ≤ W)
    (hf : rm.frames + 1 ≤ R.frames) (hl : W + (maxL + 11) + rm.locals ≤ R.locals) (hc : cells + rm.cells ≤ R.cells) (hs : slots + rm.slots ≤ R.slots) (hq : pc + 3 = q)
    (k : ∀ (T' : State) (L : List Loc) (v : Option Value), Stand p l e R s m args below meth c T' (locs ++ L) (cells + rm.cells) (slots + rm.slots) → Qv v T'.heap L → Go p e below Q (T'.setTop (mkF m q Ls (v.toList ++ rest)))) : Go p e below Q (T.setTop (mkF m pc Ls st)) := by
  subst hq hst has
  obtain ⟨v, vm₁, ⟨T', L', k', n'⟩, -, X', ⟨Lc, hQ, l1, y1, z1⟩, st'⟩ := Jvm.LawKit.callS X hx (y := y) hown (mvT hZ w1) (mvT hZ w2) (mvT hZ wz) (mvT hZ w3) hy (backOf (W := W) hM hZ w3 wz hf hl) (g := mkF m pc Ls (argsL.reverse ++ rest)) rfl hsz (argsL := argsL) (rest := rest) hlen rfl (by show 2 * 0 + _ ≤ _; omega) hd (fun _ _ => ⟨rfl, eT, hc, hs⟩)
  dsimp only [Pt.U, Pt.locs, Pt.cells, Pt.slots] at X' l1 y1 z1 st' hQ
  subst l1 y1 z1
  exact Go.of st' (k T' Lc v X' hQ)
/-- a static call that a payer of the library answers, and that leaves all as it was -/
theorem Go.nat (X : Stand p l e R s m args below meth c T locs cells slots) (hx : p.tables.exec = Jvm.exec) (hZ : Z.Warmed39 s.vm) {own : String} {index : Nat} {y : MethodName} (hown : s.vm.findClass own = some m.cls) (w1 : (Jvm.Cond.methodLink own index y).before a0 Z = true) (w2 : (Jvm.Cond.static y).before a0 Z = true) (w3 : (Jvm.Cond.initialized y.cls).before a0 Z = true)
    {by0 : ByteArray} {ml : Nat} {rt : Option FieldType} (w4 : (Jvm.Cond.code y by0 ml rt).before a0 Z = true) (hy : y.cls ≠ "java/lang/invoke/MethodHandle" ∧ y.cls ≠ "java/lang/invoke/VarHandle") (eT : T.heap = h) {W : Nat} {F : Array Value → Prop} {val : Value}
    (hK : (Jvm.Cond.code y by0 ml rt).before args s = true → Back l R p e below s args y 3 W (fun A a' => A.cells ≤ R.cells ∧ A.slots ≤ R.slots ∧ F a') (fun A _ v B => v = some val ∧ B = A))
    {pc q : Nat} {Ls : Array Slot} {st : List Value} {argsL rest : List Value} (hd : decode c.code pc = .ok (.invokestatic index, 3)) (hst : st = argsL.reverse ++ rest) (hlen : ∀ sig, parseMethodDescriptor y.desc = some sig → argsL.length = sig.parameters.length) (hsz : Ls.size = c.maxLocals) (hW : (rest.map fun v => v.category).sum ≤ W)
    (hc : cells ≤ R.cells) (hs : slots ≤ R.slots) (hF : F argsL.toArray) (hq : pc + 3 = q)
    (k : ∀ T' : State, Stand p l e R s m args below meth c T' locs cells slots → T'.heap = h → Go p e below Q (T'.setTop (mkF m q Ls (val :: rest)))) : Go p e below Q (T.setTop (mkF m pc Ls st)) := by
  subst hq hst
  obtain ⟨T', X', e', st'⟩ := natS X hx hZ hown w1 w2 w3 w4 hy eT hK (g := mkF m pc Ls (argsL.reverse ++ rest)) rfl hsz hlen rfl (by show 2 * 0 + _ ≤ _; omega) hd hc hs hF rfl
  exact Go.of st' (k T' X' e')
/-! words of the sheet by their place -/
theorem word {ts : List Jvm.Cond} (hw : ∀ d ∈ ts, d.before a0 Z = true) {d : Jvm.Cond} (i : Nat) (hi : ts[i]? = some d) : d.before a0 Z = true := hw _ (List.mem_of_getElem? hi)
end OwnHeap

theorem pd0 : parseMethodDescriptor "()V" = some ⟨[], none⟩ := by decide +kernel
theorem pd1 : parseMethodDescriptor "(JJJ)V" = some ⟨[.long, .long, .long], none⟩ := by decide +kernel
theorem pd2 : parseMethodDescriptor "()D" = some ⟨[], some .double⟩ := by decide +kernel
/-! the plain law of the quotient k + r / P -/
section OwnQuot
open Jvm.FP Jvm.FP.Core Jvm.Free.Fl
theorem nn_divl {t d : Int64} {x y : UInt64} (hx : FP.l2d t = x) (hy : FP.l2d d = y) (h : ¬ d = 0) : NoNaN64 (FP.ddiv x y) := by
  subst hx hy
  exact noNaN64_no.mpr (Core.ddiv_out (l2d_dfin t).notNaN (l2d_dfin d) (fun z => Core.l2d_ne_zero h ((Core.zero_bits2 _).mp z)))
theorem own_mono {A B C D W : Int} (hW : 0 ≤ W) (h : A * B ≤ C * D) : A * B * W ≤ C * D * W := Int.mul_le_mul_of_nonneg_right h hW
theorem own_quot (e : Nat) (he : e ≤ 53) {N P : Int64} {k r : Int} (h0 : 0 ≤ k) (hr0 : 0 ≤ r) (hr1 : r < P.toInt) (hP : P.toInt ≤ P2 e) (hk : (k + 1) * P2 e ≤ 9007199254740992) (hN : N.toInt = P.toInt * k + r) :
    DFin (FP.ddiv (FP.l2d N) (FP.l2d P)) ∧ k * P2 1074 ≤ Zv (FP.ddiv (FP.l2d N) (FP.l2d P)) ∧ Zv (FP.ddiv (FP.l2d N) (FP.l2d P)) < (k + 1) * P2 1074 ∧ (r = 0 → Zv (FP.ddiv (FP.l2d N) (FP.l2d P)) = k * P2 1074) ∧ (0 < r → k * P2 1074 < Zv (FP.ddiv (FP.l2d N) (FP.l2d P))) := by
  have hE := P2_pos e
  have hF := P2_pos (1074 - e)
  have hU := P2_pos 1074
  have hUe : P2 1074 = P2 e * P2 (1074 - e) := by rw [← P2_add]; congr 1; omega
  have hPk : P.toInt * k ≤ P2 e * k := Int.mul_le_mul_of_nonneg_right hP h0
  have hPe : P.toInt * (k + 1) ≤ P2 e * (k + 1) := Int.mul_le_mul_of_nonneg_right hP (by omega)
  have hkE : (k + 1) * P2 e = k * P2 e + P2 e := by rw [Int.add_mul, Int.one_mul]
  have hkE0 : 0 ≤ k * P2 e := Int.mul_nonneg h0 (by omega)
  have hk1 : k ≤ k * P2 e := by
    have := Int.mul_le_mul_of_nonneg_left (show (1 : Int) ≤ P2 e by omega) h0
    omega
  have hPN : P.toInt * (k + 1) = P.toInt * k + P.toInt := by rw [Int.mul_add, Int.mul_one]
  have hPk0 : 0 ≤ P.toInt * k := Int.mul_nonneg (by omega) h0
  have c1 : P2 e * (k + 1) = (k + 1) * P2 e := Int.mul_comm _ _
  have zN : Zv (FP.l2d N) = N.toInt * P2 1074 := l2d_eq (by omega)
  have zP : Zv (FP.l2d P) = P.toInt * P2 1074 := l2d_eq (by omega)
  have hp : 0 < Zv (FP.l2d P) := by rw [zP]; exact Int.mul_pos (by omega) hU
  have fN := l2d_dfin N
  have fP := l2d_dfin P
  -- three numbers of the format
  have rk : Rep (k * P2 1074) := rep_int k (by omega)
  have rl : Rep ((k * P2 e + 1) * P2 (1074 - e)) := rep_mk _ _ (by omega) (by omega)
  have rh : Rep (((k + 1) * P2 e - 1) * P2 (1074 - e)) := rep_mk _ _ (by omega) (by omega)
  have W0 : 0 ≤ P2 (1074 - e) * P2 1074 := Int.mul_nonneg (by omega) (by omega)
  have g1 : k * P2 1074 * Zv (FP.l2d P) ≤ Zv (FP.l2d N) * P2 1074 := by
    rw [zN, zP, hN]
    have : 0 ≤ r * (P2 1074 * P2 1074) := Int.mul_nonneg hr0 (Int.mul_nonneg (by omega) (by omega))
    have e1 : k * P2 1074 * (P.toInt * P2 1074) = P.toInt * k * (P2 1074 * P2 1074) := by ((try generalize P2 1074 = U1); (try generalize P2 1073 = U2); (try generalize P2 1072 = U3); (try generalize P2 (1074 - e) = U4); (try generalize P2 e = U5); (try generalize P2 1021 = U6); (try generalize P2 53 = U7); ac_rfl)
    have e2 : (P.toInt * k + r) * P2 1074 * P2 1074 = P.toInt * k * (P2 1074 * P2 1074) + r * (P2 1074 * P2 1074) := by rw [Int.mul_assoc, Int.add_mul]
    omega
  have g2 : Zv (FP.l2d N) * P2 1074 ≤ ((k + 1) * P2 e - 1) * P2 (1074 - e) * Zv (FP.l2d P) := by
    rw [zN, zP, hN]
    have k1 : (P.toInt * k + r) * P2 e ≤ ((k + 1) * P2 e - 1) * P.toInt := by
      have a1 : (P.toInt * k + r) * P2 e = P.toInt * k * P2 e + r * P2 e := Int.add_mul _ _ _
      have a2 : ((k + 1) * P2 e - 1) * P.toInt = P.toInt * k * P2 e + P.toInt * P2 e - P.toInt := by
        rw [Int.sub_mul, Int.one_mul, Int.add_mul, Int.add_mul, Int.one_mul]
        have : k * P2 e * P.toInt = P.toInt * k * P2 e := by ((try generalize P2 1074 = U1); (try generalize P2 1073 = U2); (try generalize P2 1072 = U3); (try generalize P2 (1074 - e) = U4); (try generalize P2 e = U5); (try generalize P2 1021 = U6); (try generalize P2 53 = U7); ac_rfl)
        have : P2 e * P.toInt = P.toInt * P2 e := Int.mul_comm _ _
        omega
      have a3 : (r + 1) * P2 e ≤ P.toInt * P2 e := Int.mul_le_mul_of_nonneg_right (by omega) (by omega)
      rw [Int.add_mul, Int.one_mul] at a3
      omega
    have e1 : (P.toInt * k + r) * P2 1074 * P2 1074 = (P.toInt * k + r) * P2 e * (P2 (1074 - e) * P2 1074) := by rw [Int.mul_assoc, hUe]; ((try generalize P2 1074 = U1); (try generalize P2 1073 = U2); (try generalize P2 1072 = U3); (try generalize P2 (1074 - e) = U4); (try generalize P2 e = U5); (try generalize P2 1021 = U6); (try generalize P2 53 = U7); ac_rfl)
    have e2 : ((k + 1) * P2 e - 1) * P2 (1074 - e) * (P.toInt * P2 1074) = ((k + 1) * P2 e - 1) * P.toInt * (P2 (1074 - e) * P2 1074) := by ((try generalize P2 1074 = U1); (try generalize P2 1073 = U2); (try generalize P2 1072 = U3); (try generalize P2 (1074 - e) = U4); (try generalize P2 e = U5); (try generalize P2 1021 = U6); (try generalize P2 53 = U7); ac_rfl)
    rw [e1, e2]
    exact own_mono W0 k1
  have hlt : ((k + 1) * P2 e - 1) * P2 (1074 - e) < (k + 1) * P2 1074 := by
    rw [hUe, Int.sub_mul, Int.one_mul, Int.mul_assoc]; omega
  obtain ⟨q1, q2, q3⟩ := div_in fN fP hp rk rh g1 g2
  refine ⟨q1, q2, by omega, ?_, ?_⟩
  · intro hr
    refine (div_eq fN fP hp rk ?_).2
    rw [zN, zP, hN, hr, Int.add_zero]
    ((try generalize P2 1074 = U1); (try generalize P2 1073 = U2); (try generalize P2 1072 = U3); (try generalize P2 (1074 - e) = U4); (try generalize P2 e = U5); (try generalize P2 1021 = U6); (try generalize P2 53 = U7); ac_rfl)
  · intro hr
    have g3 : (k * P2 e + 1) * P2 (1074 - e) * Zv (FP.l2d P) ≤ Zv (FP.l2d N) * P2 1074 := by
      rw [zN, zP, hN]
      have k1 : (k * P2 e + 1) * P.toInt ≤ (P.toInt * k + r) * P2 e := by
        have a1 : (P.toInt * k + r) * P2 e = P.toInt * k * P2 e + r * P2 e := Int.add_mul _ _ _
        have a2 : (k * P2 e + 1) * P.toInt = P.toInt * k * P2 e + P.toInt := by
          rw [Int.add_mul, Int.one_mul]
          have : k * P2 e * P.toInt = P.toInt * k * P2 e := by ((try generalize P2 1074 = U1); (try generalize P2 1073 = U2); (try generalize P2 1072 = U3); (try generalize P2 (1074 - e) = U4); (try generalize P2 e = U5); (try generalize P2 1021 = U6); (try generalize P2 53 = U7); ac_rfl)
          omega
        have a3 : 1 * P2 e ≤ r * P2 e := Int.mul_le_mul_of_nonneg_right (by omega) (by omega)
        omega
      have e1 : (P.toInt * k + r) * P2 1074 * P2 1074 = (P.toInt * k + r) * P2 e * (P2 (1074 - e) * P2 1074) := by rw [Int.mul_assoc, hUe]; ((try generalize P2 1074 = U1); (try generalize P2 1073 = U2); (try generalize P2 1072 = U3); (try generalize P2 (1074 - e) = U4); (try generalize P2 e = U5); (try generalize P2 1021 = U6); (try generalize P2 53 = U7); ac_rfl)
      have e2 : (k * P2 e + 1) * P2 (1074 - e) * (P.toInt * P2 1074) = (k * P2 e + 1) * P.toInt * (P2 (1074 - e) * P2 1074) := by ((try generalize P2 1074 = U1); (try generalize P2 1073 = U2); (try generalize P2 1072 = U3); (try generalize P2 (1074 - e) = U4); (try generalize P2 e = U5); (try generalize P2 1021 = U6); (try generalize P2 53 = U7); ac_rfl)
      rw [e1, e2]
      exact own_mono W0 k1
    have g4 := div_ge fN fP hp rl g3
    have : k * P2 1074 < (k * P2 e + 1) * P2 (1074 - e) := by
      rw [hUe, Int.add_mul, Int.one_mul, Int.mul_assoc]; omega
    exact Int.lt_of_lt_of_le this g4
end OwnQuot

section OwnLaw
open Jvm.FP Jvm.FP.Core Jvm.Free.Fl
/-- what averageContentsLength gives -/
def own_avg (d t u : Int64) : UInt64 := if d = 0 then 0 else FP.ddiv (FP.l2d (t - u)) (FP.l2d d)
theorem own_avg0 {d t u : Int64} {x : UInt64} (hd : d = 0) (h : own_avg d t u = x) : x = 0 := by rw [← h, own_avg, if_pos hd]
theorem own_zero {d t u : Int64} {x : UInt64} {v : Int32} (hd : d = 0) (h : own_avg d t u = x) (hv : cmpValue (FP.dcmp x 0) .l = v) : v = 0 := by
  rw [← hv, own_avg0 hd h]; exact cmp_eq zero_fin zero_fin _ rfl
theorem own_math {a : Int64} {k0 r0 u49 : Int32} {pp tt u27 kk u50 rr u72 cc tot : Int64} {avg kd : UInt64} (h1 : a &&& 2147483647 = pp) (h2 : k0.toInt64 = u27) (h3 : u27 &&& 1048575 = kk) (h4 : r0 &&& 2147483647 = u49) (h5 : u49.toInt64 = u50) (h6 : u50 - (u50 / pp) * pp = rr) (h7 : kk * pp = u72) (h8 : u72 + rr = cc) (h9 : tt + cc = tot) (hz : ¬ pp = 0) (ha : own_avg pp tot tt = avg) (hk : FP.l2d kk = kd) :
    NoNaN64 (FP.dadd kd 4607182418800017408) ∧ (rr = 0 → cmpValue (FP.dcmp avg kd) .l = 0) ∧ (¬ rr = 0 → cmpValue (FP.dcmp kd avg) .g < 0 ∧ cmpValue (FP.dcmp avg (FP.dadd kd 4607182418800017408)) .g < 0) := by
  have e1 := c_maskL a 2147483647 31 (by decide) (by decide)
  rw [h1] at e1
  have e3 := c_maskL u27 1048575 20 (by decide) (by decide)
  rw [h3] at e3
  have e4 := c_mask r0 2147483647 31 (by decide) (by decide)
  rw [h4] at e4
  have e5 : u50.toInt = u49.toInt := by rw [← h5]; exact c_i2l u49
  have z0 := Core.int64_ne hz
  have e6 := (c_lrem u50 pp pp.toInt rfl).1 (by omega)
  rw [h6] at e6
  have r0' := Int.emod_nonneg u50.toInt (show pp.toInt ≠ 0 by omega)
  have r1' := Int.emod_lt_of_pos u50.toInt (show 0 < pp.toInt by omega)
  have m7 := c_lmul kk pp
  rw [h7] at m7
  have m8 := c_ladd u72 rr
  rw [h8] at m8
  have m9 := c_ladd tt cc
  rw [h9] at m9
  have m10 := c_lsub tot tt
  have x7 := rng64 u72
  have x8 := rng64 cc
  have x9 := rng64 tot
  have x10 := rng64 (tot - tt)
  have x11 := rng64 tt
  have b0 : 0 ≤ kk.toInt * pp.toInt := Int.mul_nonneg (by omega) (by omega)
  have b1 : kk.toInt * pp.toInt ≤ 1048576 * pp.toInt := Int.mul_le_mul_of_nonneg_right (by omega) (by omega)
  have e31 : P2 31 = 2147483648 := by decide
  have hN : (tot - tt).toInt = pp.toInt * kk.toInt + rr.toInt := by rw [Int.mul_comm pp.toInt]; omega
  obtain ⟨f, g1, g2, g3, g4⟩ := own_quot 31 (by decide) (N := tot - tt) (P := pp) (k := kk.toInt) (r := rr.toInt) (by omega) (by omega) (by omega) (by first | omega | (rw [e31]; omega)) (by first | omega | (rw [e31]; omega)) hN
  have ea : avg = FP.ddiv (FP.l2d (tot - tt)) (FP.l2d pp) := by rw [← ha, own_avg, if_neg hz]
  rw [← ea] at f g1 g2 g3 g4
  have zk : Zv kd = kk.toInt * P2 1074 := by rw [← hk]; exact l2d_eq (by omega)
  have fk : DFin kd := hk ▸ l2d_dfin _
  obtain ⟨s1, s2⟩ := add_eq fk one_fin (V := (kk.toInt + 1) * P2 1074) (rep_int _ (by omega)) (by rw [zk, one_z, Int.add_mul])
  refine ⟨(nn_of s1), ?_, ?_⟩
  · intro z
    exact cmp_eq f fk _ (by rw [zk]; exact g3 (by rw [z]; rfl))
  · intro z
    have z1 := Core.int64_ne z
    refine ⟨?_, ?_⟩
    · rw [cmp_lt fk f _ (by rw [zk]; exact g4 (by omega))]; decide
    · rw [cmp_lt f s1 _ (by rw [s2]; exact g2)]; decide
end OwnLaw

theorem d2_0 : decode jdk_30_method_1_code 0 = .ok (.aload_n 0, 1) := by decide +kernel
theorem d2_1 : decode jdk_30_method_1_code 1 = .ok (.invokespecial 1, 3) := by decide +kernel
theorem d2_4 : decode jdk_30_method_1_code 4 = .ok (.return_, 1) := by decide +kernel
set_option maxRecDepth 65536 in
set_option maxHeartbeats 40000000 in
theorem rm_rec (l : Launch) (Z : State) (a0 : Array Value) (hw : ∀ d ∈ tables_1, d.before a0 Z = true) (a1 : Addr) (h0 : Heap) (n0 : Nat) (Z0 : n0 ≤ h0.size)  :
    Con l Z (⟨"java/lang/Record", "<init>", "()V"⟩ : MethodName) jdk_30_method_1_code 1 none ({ frames := 1, cells := 0, slots := 0, locals := 12 } : Room) #[(.ref a1)] h0 (fun v h L => v = none ∧ Fr n0 L ∧ h = h0) := by
  refine enter (l := l) (Z := Z) (y := (⟨"java/lang/Record", "<init>", "()V"⟩ : MethodName)) (bytes := jdk_30_method_1_code) (maxL := 1) (ret := none) (ws := []) (rm := ({ frames := 1, cells := 0, slots := 0, locals := 12 } : Room)) (as' := #[(.ref a1)]) (h0 := h0) (Qv := (fun v h L => v = none ∧ Fr n0 L ∧ h = h0)) (kc := 0) (ks := 0) (by first | exact plainFor_of_name (by first | (simp [plainName, overriddenIn]; done) | decide +kernel) | decide +kernel) (Ls := #[.val (.ref a1)]) (fun m => by first | (simp [entryFrame, mkF, argsToLocals, Value.category]; done) | rfl) ?_
  intro p e s m below meth c s₁ hx hby hml hown hnm hret hlk hZ X0 e0
  have hown : s.vm.findClass "java/lang/Record" = some m.cls := hown
  have hml : c.maxLocals = 1 := hml
  have N0 := Fr.nil n0
  refine Go.aloadN X0.here hx (Jvm.hb hby d2_0) rfl rfl (q := 1) rfl ?_
  refine Go.init X0 hx hZ hown (word hw 13 rfl) (word hw 14 rfl) (word hw 15 rfl) e0 (Jvm.hb hby d2_1) (by rw [hml]; rfl) (by decide) (W := 0) (Nat.le_of_eq rfl) (by decide) (q := 4) rfl ?_
  intro T101 X101 e101
  refine Go.retV X101 hx hret hlk (Jvm.hb hby d2_4) (by decide) (by decide) ?_
  exact ⟨rfl, N0, e101⟩
theorem d1_0 : decode prog_41_method_1_code 0 = .ok (.aload_n 0, 1) := by decide +kernel
theorem d1_1 : decode prog_41_method_1_code 1 = .ok (.invokespecial 1, 3) := by decide +kernel
theorem d1_4 : decode prog_41_method_1_code 4 = .ok (.aload_n 0, 1) := by decide +kernel
theorem d1_5 : decode prog_41_method_1_code 5 = .ok (.lload_n 1, 1) := by decide +kernel
theorem d1_6 : decode prog_41_method_1_code 6 = .ok (.putfield 7, 3) := by decide +kernel
theorem d1_9 : decode prog_41_method_1_code 9 = .ok (.aload_n 0, 1) := by decide +kernel
theorem d1_10 : decode prog_41_method_1_code 10 = .ok (.lload_n 3, 1) := by decide +kernel
theorem d1_11 : decode prog_41_method_1_code 11 = .ok (.putfield 13, 3) := by decide +kernel
theorem d1_14 : decode prog_41_method_1_code 14 = .ok (.aload_n 0, 1) := by decide +kernel
theorem d1_15 : decode prog_41_method_1_code 15 = .ok (.lload 5, 2) := by decide +kernel
theorem d1_17 : decode prog_41_method_1_code 17 = .ok (.putfield 16, 3) := by decide +kernel
theorem d1_20 : decode prog_41_method_1_code 20 = .ok (.return_, 1) := by decide +kernel
set_option maxRecDepth 65536 in
set_option maxHeartbeats 40000000 in
theorem rm_init (l : Launch) (Z : State) (a0 : Array Value) (hw : ∀ d ∈ tables_1, d.before a0 Z = true) (a1 : Addr) (q2 : Int64) (q3 : Int64) (q4 : Int64) (o1 : Value) (o2 : Value) (o3 : Value) (h0 : Heap) (n0 : Nat) (Z0 : n0 ≤ h0.size) (E1 : Exa Z h0 a1 "com/example/hale_query/halequery/search/Corpus") (F1 : Fld Z h0 a1 "com/example/hale_query/halequery/search/Corpus" "pages" "J" o1) (F2 : Fld Z h0 a1 "com/example/hale_query/halequery/search/Corpus" "terms" "J" o2) (F3 : Fld Z h0 a1 "com/example/hale_query/halequery/search/Corpus" "titleTerms" "J" o3) (g1 : n0 ≤ a1) :
    Con l Z (⟨"com/example/hale_query/halequery/search/Corpus", "<init>", "(JJJ)V"⟩ : MethodName) prog_41_method_1_code 7 none ({ frames := 2, cells := 0, slots := 0, locals := 24 } : Room) #[(.ref a1), (.long q2), (.long q3), (.long q4)] h0 (fun v h L => v = none ∧ Fr n0 L ∧ Keep h0 h [a1] ∧ Exa Z h a1 "com/example/hale_query/halequery/search/Corpus" ∧ Fld Z h a1 "com/example/hale_query/halequery/search/Corpus" "pages" "J" (.long q2) ∧ Fld Z h a1 "com/example/hale_query/halequery/search/Corpus" "terms" "J" (.long q3) ∧ Fld Z h a1 "com/example/hale_query/halequery/search/Corpus" "titleTerms" "J" (.long q4)) := by
  refine enter (l := l) (Z := Z) (y := (⟨"com/example/hale_query/halequery/search/Corpus", "<init>", "(JJJ)V"⟩ : MethodName)) (bytes := prog_41_method_1_code) (maxL := 7) (ret := none) (ws := []) (rm := ({ frames := 2, cells := 0, slots := 0, locals := 24 } : Room)) (as' := #[(.ref a1), (.long q2), (.long q3), (.long q4)]) (h0 := h0) (Qv := (fun v h L => v = none ∧ Fr n0 L ∧ Keep h0 h [a1] ∧ Exa Z h a1 "com/example/hale_query/halequery/search/Corpus" ∧ Fld Z h a1 "com/example/hale_query/halequery/search/Corpus" "pages" "J" (.long q2) ∧ Fld Z h a1 "com/example/hale_query/halequery/search/Corpus" "terms" "J" (.long q3) ∧ Fld Z h a1 "com/example/hale_query/halequery/search/Corpus" "titleTerms" "J" (.long q4))) (kc := 0) (ks := 0) (by first | exact plainFor_of_name (by first | (simp [plainName, overriddenIn]; done) | decide +kernel) | decide +kernel) (Ls := #[.val (.ref a1), .val (.long q2), .second, .val (.long q3), .second, .val (.long q4), .second]) (fun m => by first | (simp [entryFrame, mkF, argsToLocals, Value.category]; done) | rfl) ?_
  intro p e s m below meth c s₁ hx hby hml hown hnm hret hlk hZ X0 e0
  have hown : s.vm.findClass "com/example/hale_query/halequery/search/Corpus" = some m.cls := hown
  have hml : c.maxLocals = 7 := hml
  have N0 := Fr.nil n0
  refine Go.aloadN X0.here hx (Jvm.hb hby d1_0) rfl rfl (q := 1) rfl ?_
  refine Go.special X0 hx hZ (y := (⟨"java/lang/Record", "<init>", "()V"⟩ : MethodName)) rfl hown (word hw 8 rfl) (word hw 9 rfl) (word hw 12 rfl) (word hw 11 rfl) (by decide) (rm_rec l Z a0 hw a1 h0 n0 Z0 ) e0 (a := a1) (argsL := []) (rest := []) (W := 0) (Jvm.hb hby d1_1) rfl rfl (lenOf (pd0) rfl) (by rw [hml]; rfl) (Nat.le_of_eq rfl) (by decide) (by decide) (by decide) (by decide) (q := 4) rfl ?_
  intro T101 L101 w101 X101 hQ101
  obtain ⟨rfl, M101, q101⟩ := hQ101
  have N101 := Fr.app N0 M101
  show Go p e below _ (T101.setTop (mkF m 4 #[.val (.ref a1), .val (.long q2), .second, .val (.long q3), .second, .val (.long q4), .second] []))
  refine Go.aloadN X101.here hx (Jvm.hb hby d1_4) rfl rfl (q := 5) rfl ?_
  refine Go.lloadN X101.here hx (Jvm.hb hby d1_5) rfl (q := 6) rfl ?_
  refine Go.putf X101 hx hZ hown (word hw 16 rfl) q101 F1 E1 (Or.inr ⟨(word hw 17 rfl), rfl, hnm⟩) (word hw 3 rfl) (ty := .long) (by decide) rfl rfl (Jvm.hb hby d1_6) (q := 9) rfl ?_
  intro T102 h102 X102 e102 W102
  have N102 := Fr.snoc X102 N101 g1
  have F102 := F1.same W102
  refine Go.aloadN X102.here hx (Jvm.hb hby d1_9) rfl rfl (q := 10) rfl ?_
  refine Go.lloadN X102.here hx (Jvm.hb hby d1_10) rfl (q := 11) rfl ?_
  have f104 := F2.other W102 (Or.inr (Jvm.RoadKit.slot_ne (Or.inr (word hw 19 rfl)) (Or.inr (word hw 17 rfl)) (by decide) (t := .long) (t' := .long) (by decide) (by decide)))
  have f105 := E1.wr W102
  refine Go.putf X102 hx hZ hown (word hw 18 rfl) e102 f104 f105 (Or.inr ⟨(word hw 19 rfl), rfl, hnm⟩) (word hw 3 rfl) (ty := .long) (by decide) rfl rfl (Jvm.hb hby d1_11) (q := 14) rfl ?_
  intro T103 h103 X103 e103 W103
  have N103 := Fr.snoc X103 N102 g1
  have F103 := f104.same W103
  refine Go.aloadN X103.here hx (Jvm.hb hby d1_14) rfl rfl (q := 15) rfl ?_
  refine Go.lload X103.here hx (Jvm.hb hby d1_15) rfl (q := 17) rfl ?_
  have f107 := F3.other W102 (Or.inr (Jvm.RoadKit.slot_ne (Or.inr (word hw 21 rfl)) (Or.inr (word hw 17 rfl)) (by decide) (t := .long) (t' := .long) (by decide) (by decide)))
  have f108 := f107.other W103 (Or.inr (Jvm.RoadKit.slot_ne (Or.inr (word hw 21 rfl)) (Or.inr (word hw 19 rfl)) (by decide) (t := .long) (t' := .long) (by decide) (by decide)))
  have f109 := f105.wr W103
  refine Go.putf X103 hx hZ hown (word hw 20 rfl) e103 f108 f109 (Or.inr ⟨(word hw 21 rfl), rfl, hnm⟩) (word hw 3 rfl) (ty := .long) (by decide) rfl rfl (Jvm.hb hby d1_17) (q := 20) rfl ?_
  intro T106 h106 X106 e106 W106
  have N106 := Fr.snoc X106 N103 g1
  have F106 := f108.same W106
  have k110 : Keep h0 h102 [a1] := (Keep.refl h0 [a1]).wr W102 (Or.inl (List.mem_of_getElem? (i := 0) rfl))
  have k111 : Keep h0 h103 [a1] := k110.wr W103 (Or.inl (List.mem_of_getElem? (i := 0) rfl))
  have k112 : Keep h0 h106 [a1] := k111.wr W106 (Or.inl (List.mem_of_getElem? (i := 0) rfl))
  have f113 := f109.wr W106
  have f114 := F102.other W103 (Or.inr (Jvm.RoadKit.slot_ne (Or.inr (word hw 17 rfl)) (Or.inr (word hw 19 rfl)) (by decide) (t := .long) (t' := .long) (by decide) (by decide)))
  have f115 := f114.other W106 (Or.inr (Jvm.RoadKit.slot_ne (Or.inr (word hw 17 rfl)) (Or.inr (word hw 21 rfl)) (by decide) (t := .long) (t' := .long) (by decide) (by decide)))
  have f116 := F103.other W106 (Or.inr (Jvm.RoadKit.slot_ne (Or.inr (word hw 19 rfl)) (Or.inr (word hw 21 rfl)) (by decide) (t := .long) (t' := .long) (by decide) (by decide)))
  refine Go.retV X106 hx hret hlk (Jvm.hb hby d1_20) (by decide) (by decide) ?_
  rw [e106]
  exact ⟨rfl, N106, k112, f113, f115, f116, F106⟩
theorem d4_0 : decode prog_41_method_3_code 0 = .ok (.aload_n 0, 1) := by decide +kernel
theorem d4_1 : decode prog_41_method_3_code 1 = .ok (.getfield 7, 3) := by decide +kernel
theorem d4_4 : decode prog_41_method_3_code 4 = .ok (.lconst 0, 1) := by decide +kernel
theorem d4_5 : decode prog_41_method_3_code 5 = .ok (.lcmp, 1) := by decide +kernel
theorem d4_6 : decode prog_41_method_3_code 6 = .ok (.ifCond .ne 7, 3) := by decide +kernel
theorem d4_9 : decode prog_41_method_3_code 9 = .ok (.dconst 0, 1) := by decide +kernel
theorem d4_10 : decode prog_41_method_3_code 10 = .ok (.goto 19, 3) := by decide +kernel
theorem d4_13 : decode prog_41_method_3_code 13 = .ok (.aload_n 0, 1) := by decide +kernel
theorem d4_14 : decode prog_41_method_3_code 14 = .ok (.getfield 13, 3) := by decide +kernel
theorem d4_17 : decode prog_41_method_3_code 17 = .ok (.aload_n 0, 1) := by decide +kernel
theorem d4_18 : decode prog_41_method_3_code 18 = .ok (.getfield 16, 3) := by decide +kernel
theorem d4_21 : decode prog_41_method_3_code 21 = .ok (.lsub, 1) := by decide +kernel
theorem d4_22 : decode prog_41_method_3_code 22 = .ok (.l2d, 1) := by decide +kernel
theorem d4_23 : decode prog_41_method_3_code 23 = .ok (.aload_n 0, 1) := by decide +kernel
theorem d4_24 : decode prog_41_method_3_code 24 = .ok (.getfield 7, 3) := by decide +kernel
theorem d4_27 : decode prog_41_method_3_code 27 = .ok (.l2d, 1) := by decide +kernel
theorem d4_28 : decode prog_41_method_3_code 28 = .ok (.ddiv, 1) := by decide +kernel
theorem d4_29 : decode prog_41_method_3_code 29 = .ok (.dreturn, 1) := by decide +kernel
set_option maxRecDepth 65536 in
set_option maxHeartbeats 40000000 in
theorem rm_avg (l : Launch) (Z : State) (a0 : Array Value) (hw : ∀ d ∈ tables_1, d.before a0 Z = true) (a1 : Addr) (w2 : Int64) (w3 : Int64) (w4 : Int64) (h0 : Heap) (n0 : Nat) (Z0 : n0 ≤ h0.size) (F1 : Fld Z h0 a1 "com/example/hale_query/halequery/search/Corpus" "pages" "J" (.long w2)) (F2 : Fld Z h0 a1 "com/example/hale_query/halequery/search/Corpus" "terms" "J" (.long w3)) (F3 : Fld Z h0 a1 "com/example/hale_query/halequery/search/Corpus" "titleTerms" "J" (.long w4)) :
    Con l Z (⟨"com/example/hale_query/halequery/search/Corpus", "averageContentsLength", "()D"⟩ : MethodName) prog_41_method_3_code 1 (some .double) ({ frames := 0, cells := 0, slots := 0, locals := 0 } : Room) #[(.ref a1)] h0 (fun v h L => v = some (.double (own_avg w2 w3 w4)) ∧ Fr n0 L ∧ h = h0) := by
  refine enter (l := l) (Z := Z) (y := (⟨"com/example/hale_query/halequery/search/Corpus", "averageContentsLength", "()D"⟩ : MethodName)) (bytes := prog_41_method_3_code) (maxL := 1) (ret := (some .double)) (ws := []) (rm := ({ frames := 0, cells := 0, slots := 0, locals := 0 } : Room)) (as' := #[(.ref a1)]) (h0 := h0) (Qv := (fun v h L => v = some (.double (own_avg w2 w3 w4)) ∧ Fr n0 L ∧ h = h0)) (kc := 0) (ks := 0) (by first | exact plainFor_of_name (by first | (simp [plainName, overriddenIn]; done) | decide +kernel) | decide +kernel) (Ls := #[.val (.ref a1)]) (fun m => by first | (simp [entryFrame, mkF, argsToLocals, Value.category]; done) | rfl) ?_
  intro p e s m below meth c s₁ hx hby hml hown hnm hret hlk hZ X0 e0
  have hown : s.vm.findClass "com/example/hale_query/halequery/search/Corpus" = some m.cls := hown
  have hml : c.maxLocals = 1 := hml
  have N0 := Fr.nil n0
  refine Go.aloadN X0.here hx (Jvm.hb hby d4_0) rfl rfl (q := 1) rfl ?_
  refine Go.getf X0 hx hZ hown (word hw 16 rfl) e0 F1 (Jvm.hb hby d4_1) (q := 4) rfl ?_
  intro T101 X101 e101
  refine Go.lconst X101.here hx (Jvm.hb hby d4_4) (v := (0 : Int64)) rfl (q := 5) rfl ?_
  obtain ⟨u5, hu5⟩ : ∃ zq, lcmpW w2 (0 : Int64) = zq := ⟨_, rfl⟩
  refine Go.lcmp X101.here hx (Jvm.hb hby d4_5) hu5 (q := 6) rfl ?_
  by_cases hc6 : w2 = (0 : Int64)
  · -- pc 6: w2 = (0 : Int64)
    refine Go.ifN X101.here hx (Jvm.hb hby d4_6) ((if0 _ _).trans (teq (hu5 ▸ (lw_eq _ _).mpr hc6)).2) (q := 9) rfl ?_
    refine Go.dconst0 X101.here hx (Jvm.hb hby d4_9) (v := (0 : UInt64)) rfl (q := 10) rfl ?_
    refine Go.goto X101.here hx (Jvm.hb hby d4_10) (by decide) (q := 29) rfl ?_
    refine Go.retD X101 hx hret hlk (Jvm.hb hby d4_29) (by decide) (by decide) ?_
    exact ⟨by rw [own_avg, if_pos hc6], N0, e101⟩
  · -- pc 6: not w2 = (0 : Int64)
    refine Go.ifY X101.here hx (Jvm.hb hby d4_6) ((if0 _ _).trans (feq (fun z => hc6 ((lw_eq _ _).mp (hu5.symm ▸ z)))).2) (by decide) (q := 13) rfl ?_
    refine Go.aloadN X101.here hx (Jvm.hb hby d4_13) rfl rfl (q := 14) rfl ?_
    refine Go.getf X101 hx hZ hown (word hw 18 rfl) e101 F2 (Jvm.hb hby d4_14) (q := 17) rfl ?_
    intro T103 X103 e103
    refine Go.aloadN X103.here hx (Jvm.hb hby d4_17) rfl rfl (q := 18) rfl ?_
    refine Go.getf X103 hx hZ hown (word hw 20 rfl) e103 F3 (Jvm.hb hby d4_18) (q := 21) rfl ?_
    intro T104 X104 e104
    obtain ⟨u21, hu21⟩ : ∃ zq, w3 - w4 = zq := ⟨_, rfl⟩
    refine Go.lsub X104.here hx (Jvm.hb hby d4_21) hu21 (q := 22) rfl ?_
    obtain ⟨u22, hu22⟩ : ∃ zq, FP.l2d u21 = zq := ⟨_, rfl⟩
    refine Go.l2d X104.here hx (Jvm.hb hby d4_22) hu22 (q := 23) rfl ?_
    refine Go.aloadN X104.here hx (Jvm.hb hby d4_23) rfl rfl (q := 24) rfl ?_
    refine Go.getf X104 hx hZ hown (word hw 16 rfl) e104 F1 (Jvm.hb hby d4_24) (q := 27) rfl ?_
    intro T105 X105 e105
    obtain ⟨u27, hu27⟩ : ∃ zq, FP.l2d w2 = zq := ⟨_, rfl⟩
    refine Go.l2d X105.here hx (Jvm.hb hby d4_27) hu27 (q := 28) rfl ?_
    obtain ⟨u28, hu28⟩ : ∃ zq, FP.ddiv u22 u27 = zq := ⟨_, rfl⟩
    refine Go.ddiv X105.here hx (Jvm.hb hby d4_28) (nn_divl hu22 hu27 hc6) hu28 (q := 29) rfl ?_
    refine Go.retD X105 hx hret hlk (Jvm.hb hby d4_29) (by decide) (by decide) ?_
    exact ⟨by rw [own_avg, if_neg hc6, hu21, hu22, hu27, hu28], N0, e105⟩
set_option maxRecDepth 65536 in
set_option maxHeartbeats 40000000 in
theorem rm_law (l : Launch) (Z : State) (a0 : Array Value) (hw : ∀ d ∈ tables_1, d.before a0 Z = true) (ws : List Jvm.Cond) (q1 : Int64) (q2 : Int64) (q3 : Int32) (q4 : Int32) (q5 : Int32) (h0 : Heap) (n0 : Nat) (Z0 : n0 ≤ h0.size)  :
    MetFree l x (head1 (Jvm.Cond.code x code maxLocals ret :: ws) room_1) (fun a U => a = #[(.long q1), (.long q2), (.int q3), (.int q4), (.int q5)] ∧ Z.Warmed39 U.vm ∧ U.heap = h0) (fun _ _ _ _ _ => True) (fun _ U o U' => ∃ v L, o = .returned v ∧ (fun v h L => v = some (.int (1 : Int32)) ∧ Fr n0 L) v U'.heap L ∧ FrameEnd U o U' L 16 128) := by
  refine enter (l := l) (Z := Z) (y := x) (bytes := code) (maxL := maxLocals) (ret := ret) (ws := ws) (rm := room_1) (as' := #[(.long q1), (.long q2), (.int q3), (.int q4), (.int q5)]) (h0 := h0) (Qv := (fun v h L => v = some (.int (1 : Int32)) ∧ Fr n0 L)) (kc := 16) (ks := 128) (by first | exact plainFor_of_name (by first | (simp [plainName, overriddenIn]; done) | decide +kernel) | decide +kernel) (Ls := #[.val (.long q1), .second, .val (.long q2), .second, .val (.int q3), .val (.int q4), .val (.int q5), .unset, .unset, .unset, .unset, .unset, .unset, .unset, .unset, .unset, .unset, .unset, .unset, .unset, .unset, .unset]) (fun m => by first | (simp [entryFrame, mkF, argsToLocals, Value.category, maxLocals]; done) | rfl) ?_
  intro p e s m below meth c s₁ hx hby hml hown hnm hret hlk hZ X0 e0
  have hown : s.vm.findClass "com/example/hale_query/halequery/search/CorpusAverageContentsLengthPinLaw" = some m.cls := hown
  have hml : c.maxLocals = 22 := hml
  have N0 := Fr.nil n0
  refine Go.iload X0.here hx (Jvm.hb hby at_0) rfl (q := 2) rfl ?_
  refine Go.iconst X0.here hx (Jvm.hb hby at_2) (v := (3 : Int32)) rfl (q := 3) rfl ?_
  obtain ⟨u3, hu3⟩ : ∃ zq, q5 &&& (3 : Int32) = zq := ⟨_, rfl⟩
  refine Go.iand X0.here hx (Jvm.hb hby at_3) hu3 (q := 4) rfl ?_
  by_cases hc4 : u3 = (0 : Int32)
  · -- pc 4: u3 = (0 : Int32)
    refine Go.ifN X0.here hx (Jvm.hb hby at_4) ((if0 _ _).trans (teq hc4).2) (q := 7) rfl ?_
    refine Go.lconst X0.here hx (Jvm.hb hby at_7) (v := (0 : Int64)) rfl (q := 8) rfl ?_
    refine Go.goto X0.here hx (Jvm.hb hby at_8) (by decide) (q := 16) rfl ?_
    refine Go.lstore X0.here hx (Jvm.hb hby at_16) (l2 := #[.val (.long q1), .second, .val (.long q2), .second, .val (.int q3), .val (.int q4), .val (.int q5), .val (.long (0 : Int64)), .second, .unset, .unset, .unset, .unset, .unset, .unset, .unset, .unset, .unset, .unset, .unset, .unset, .unset]) rfl (q := 18) rfl ?_
    refine Go.lloadN X0.here hx (Jvm.hb hby at_18) rfl (q := 19) rfl ?_
    refine Go.ldc2J X0 hx hown (mvT hZ (word hw 0 rfl)) (Jvm.hb hby at_19) (q := 22) rfl ?_
    obtain ⟨tt, htt⟩ : ∃ zq, q2 &&& (4611686018427387903 : Int64) = zq := ⟨_, rfl⟩
    refine Go.land X0.here hx (Jvm.hb hby at_22) htt (q := 23) rfl ?_
    refine Go.lstore X0.here hx (Jvm.hb hby at_23) (l2 := #[.val (.long q1), .second, .val (.long q2), .second, .val (.int q3), .val (.int q4), .val (.int q5), .val (.long (0 : Int64)), .second, .val (.long tt), .second, .unset, .unset, .unset, .unset, .unset, .unset, .unset, .unset, .unset, .unset, .unset]) rfl (q := 25) rfl ?_
    refine Go.iload X0.here hx (Jvm.hb hby at_25) rfl (q := 27) rfl ?_
    obtain ⟨u27, hu27⟩ : ∃ zq, Int32.toInt64 q3 = zq := ⟨_, rfl⟩
    refine Go.i2l X0.here hx (Jvm.hb hby at_27) hu27 (q := 28) rfl ?_
    refine Go.ldc2J X0 hx hown (mvT hZ (word hw 1 rfl)) (Jvm.hb hby at_28) (q := 31) rfl ?_
    obtain ⟨kk, hkk⟩ : ∃ zq, u27 &&& (1048575 : Int64) = zq := ⟨_, rfl⟩
    refine Go.land X0.here hx (Jvm.hb hby at_31) hkk (q := 32) rfl ?_
    refine Go.lstore X0.here hx (Jvm.hb hby at_32) (l2 := #[.val (.long q1), .second, .val (.long q2), .second, .val (.int q3), .val (.int q4), .val (.int q5), .val (.long (0 : Int64)), .second, .val (.long tt), .second, .val (.long kk), .second, .unset, .unset, .unset, .unset, .unset, .unset, .unset, .unset, .unset]) rfl (q := 34) rfl ?_
    refine Go.lload X0.here hx (Jvm.hb hby at_34) rfl (q := 36) rfl ?_
    refine Go.lconst X0.here hx (Jvm.hb hby at_36) (v := (0 : Int64)) rfl (q := 37) rfl ?_
    obtain ⟨u37, hu37⟩ : ∃ zq, lcmpW (0 : Int64) (0 : Int64) = zq := ⟨_, rfl⟩
    refine Go.lcmp X0.here hx (Jvm.hb hby at_37) hu37 (q := 38) rfl ?_
    have hc38 : (0 : Int64) = (0 : Int64) := rfl
    refine Go.ifN X0.here hx (Jvm.hb hby at_38) ((if0 _ _).trans (teq (hu37 ▸ (lw_eq _ _).mpr hc38)).2) (q := 41) rfl ?_
    refine Go.lconst X0.here hx (Jvm.hb hby at_41) (v := (0 : Int64)) rfl (q := 42) rfl ?_
    refine Go.goto X0.here hx (Jvm.hb hby at_42) (by decide) (q := 54) rfl ?_
    refine Go.lstore X0.here hx (Jvm.hb hby at_54) (l2 := #[.val (.long q1), .second, .val (.long q2), .second, .val (.int q3), .val (.int q4), .val (.int q5), .val (.long (0 : Int64)), .second, .val (.long tt), .second, .val (.long kk), .second, .val (.long (0 : Int64)), .second, .unset, .unset, .unset, .unset, .unset, .unset, .unset]) rfl (q := 56) rfl ?_
    refine Go.lload X0.here hx (Jvm.hb hby at_56) rfl (q := 58) rfl ?_
    refine Go.lconst X0.here hx (Jvm.hb hby at_58) (v := (0 : Int64)) rfl (q := 59) rfl ?_
    obtain ⟨u59, hu59⟩ : ∃ zq, lcmpW (0 : Int64) (0 : Int64) = zq := ⟨_, rfl⟩
    refine Go.lcmp X0.here hx (Jvm.hb hby at_59) hu59 (q := 60) rfl ?_
    have hc60 : (0 : Int64) = (0 : Int64) := rfl
    refine Go.ifN X0.here hx (Jvm.hb hby at_60) ((if0 _ _).trans (teq (hu59 ▸ (lw_eq _ _).mpr hc60)).2) (q := 63) rfl ?_
    refine Go.lload X0.here hx (Jvm.hb hby at_63) rfl (q := 65) rfl ?_
    refine Go.goto X0.here hx (Jvm.hb hby at_65) (by decide) (q := 76) rfl ?_
    refine Go.lstore X0.here hx (Jvm.hb hby at_76) (l2 := #[.val (.long q1), .second, .val (.long q2), .second, .val (.int q3), .val (.int q4), .val (.int q5), .val (.long (0 : Int64)), .second, .val (.long tt), .second, .val (.long kk), .second, .val (.long (0 : Int64)), .second, .val (.long kk), .second, .unset, .unset, .unset, .unset, .unset]) rfl (q := 78) rfl ?_
    refine Go.new X0 hx hZ hown (word hw 2 rfl) (word hw 3 rfl) (word hw 4 rfl) e0 (Jvm.hb hby at_78) (by decide) (by decide) (q := 81) rfl ?_
    intro T104 h104 a104 g104 X104 e104 E104 A104 D104
    have r105 : n0 ≤ a104 := Nat.le_trans Z0 (Nat.le_of_eq g104.symm)
    have F106 : Fld Z h104 a104 "com/example/hale_query/halequery/search/Corpus" "pages" "J" (.long (0 : Int64)) := D104 (Or.inr (word hw 17 rfl)) (ty := .long) (by decide)
    have F107 : Fld Z h104 a104 "com/example/hale_query/halequery/search/Corpus" "terms" "J" (.long (0 : Int64)) := D104 (Or.inr (word hw 19 rfl)) (ty := .long) (by decide)
    have F108 : Fld Z h104 a104 "com/example/hale_query/halequery/search/Corpus" "titleTerms" "J" (.long (0 : Int64)) := D104 (Or.inr (word hw 21 rfl)) (ty := .long) (by decide)
    refine Go.dup X104.here hx (Jvm.hb hby at_81) rfl (q := 82) rfl ?_
    refine Go.lload X104.here hx (Jvm.hb hby at_82) rfl (q := 84) rfl ?_
    refine Go.lload X104.here hx (Jvm.hb hby at_84) rfl (q := 86) rfl ?_
    refine Go.lload X104.here hx (Jvm.hb hby at_86) rfl (q := 88) rfl ?_
    obtain ⟨tot, htot⟩ : ∃ zq, tt + kk = zq := ⟨_, rfl⟩
    refine Go.ladd X104.here hx (Jvm.hb hby at_88) htot (q := 89) rfl ?_
    refine Go.lload X104.here hx (Jvm.hb hby at_89) rfl (q := 91) rfl ?_
    have z110 : n0 ≤ h104.size := Nat.le_trans Z0 E104.1
    refine Go.special X104 hx hZ (y := (⟨"com/example/hale_query/halequery/search/Corpus", "<init>", "(JJJ)V"⟩ : MethodName)) rfl hown (word hw 5 rfl) (word hw 6 rfl) (word hw 7 rfl) (word hw 4 rfl) (by decide) (rm_init l Z a0 hw a104 (0 : Int64) tot tt (.long (0 : Int64)) (.long (0 : Int64)) (.long (0 : Int64)) h104 n0 z110 A104 F106 F107 F108 r105) e104 (a := a104) (argsL := [(.long (0 : Int64)), (.long tot), (.long tt)]) (rest := [(.ref a104)]) (W := 1) (Jvm.hb hby at_91) rfl rfl (lenOf (pd1) rfl) (by rw [hml]; rfl) (Nat.le_of_eq rfl) (by decide) (by decide) (by decide) (by decide) (q := 94) rfl ?_
    intro T109 L109 w109 X109 hQ109
    obtain ⟨rfl, M109, K109, P109_0, P109_1, P109_2, P109_3⟩ := hQ109
    have N109 := Fr.app N0 M109
    show Go p e below _ (T109.setTop (mkF m 94 #[.val (.long q1), .second, .val (.long q2), .second, .val (.int q3), .val (.int q4), .val (.int q5), .val (.long (0 : Int64)), .second, .val (.long tt), .second, .val (.long kk), .second, .val (.long (0 : Int64)), .second, .val (.long kk), .second, .unset, .unset, .unset, .unset, .unset] [(.ref a104)]))
    refine Go.astore X109.here hx (Jvm.hb hby at_94) rfl (l2 := #[.val (.long q1), .second, .val (.long q2), .second, .val (.int q3), .val (.int q4), .val (.int q5), .val (.long (0 : Int64)), .second, .val (.long tt), .second, .val (.long kk), .second, .val (.long (0 : Int64)), .second, .val (.long kk), .second, .val (.ref a104), .unset, .unset, .unset, .unset]) rfl (q := 96) rfl ?_
    refine Go.aload X109.here hx (Jvm.hb hby at_96) rfl rfl (q := 98) rfl ?_
    have z112 : n0 ≤ T109.heap.size := Nat.le_trans z110 K109.1
    refine Go.virtual X109 hx hZ (y := (⟨"com/example/hale_query/halequery/search/Corpus", "averageContentsLength", "()D"⟩ : MethodName)) hown (word hw 22 rfl) (word hw 23 rfl) (word hw 25 rfl) (word hw 24 rfl) (word hw 26 rfl) (word hw 4 rfl) (by decide) (rm_avg l Z a0 hw a104 (0 : Int64) tot tt T109.heap n0 z112 P109_1 P109_2 P109_3) rfl P109_0  (argsL := []) (rest := []) (W := 0) (Jvm.hb hby at_98) rfl rfl (lenOf (pd2) rfl) (by rw [hml]; rfl) (Nat.le_of_eq rfl) (by decide) (by decide) (by decide) (by decide) (q := 101) rfl ?_
    intro T111 L111 w111 X111 hQ111
    obtain ⟨rfl, M111, q111⟩ := hQ111
    have N111 := Fr.app N109 M111
    show Go p e below _ (T111.setTop (mkF m 101 #[.val (.long q1), .second, .val (.long q2), .second, .val (.int q3), .val (.int q4), .val (.int q5), .val (.long (0 : Int64)), .second, .val (.long tt), .second, .val (.long kk), .second, .val (.long (0 : Int64)), .second, .val (.long kk), .second, .val (.ref a104), .unset, .unset, .unset, .unset] [(.double (own_avg (0 : Int64) tot tt))]))
    obtain ⟨avg, havg⟩ : ∃ zq, (own_avg (0 : Int64) tot tt) = zq := ⟨_, rfl⟩
    rw [havg]
    refine Go.dstore X111.here hx (Jvm.hb hby at_101) (l2 := #[.val (.long q1), .second, .val (.long q2), .second, .val (.int q3), .val (.int q4), .val (.int q5), .val (.long (0 : Int64)), .second, .val (.long tt), .second, .val (.long kk), .second, .val (.long (0 : Int64)), .second, .val (.long kk), .second, .val (.ref a104), .val (.double avg), .second, .unset, .unset]) rfl (q := 103) rfl ?_
    refine Go.lload X111.here hx (Jvm.hb hby at_103) rfl (q := 105) rfl ?_
    refine Go.lconst X111.here hx (Jvm.hb hby at_105) (v := (0 : Int64)) rfl (q := 106) rfl ?_
    obtain ⟨u106, hu106⟩ : ∃ zq, lcmpW (0 : Int64) (0 : Int64) = zq := ⟨_, rfl⟩
    refine Go.lcmp X111.here hx (Jvm.hb hby at_106) hu106 (q := 107) rfl ?_
    have hc107 : (0 : Int64) = (0 : Int64) := rfl
    refine Go.ifN X111.here hx (Jvm.hb hby at_107) ((if0 _ _).trans (teq (hu106 ▸ (lw_eq _ _).mpr hc107)).2) (q := 110) rfl ?_
    refine Go.dload X111.here hx (Jvm.hb hby at_110) rfl (q := 112) rfl ?_
    refine Go.dconst0 X111.here hx (Jvm.hb hby at_112) (v := (0 : UInt64)) rfl (q := 113) rfl ?_
    obtain ⟨u113, hu113⟩ : ∃ zq, cmpValue (FP.dcmp avg (0 : UInt64)) .l = zq := ⟨_, rfl⟩
    refine Go.dcmp X111.here hx (Jvm.hb hby at_113) hu113 (q := 114) rfl ?_
    have hc114 : u113 = (0 : Int32) := own_zero rfl havg hu113
    refine Go.ifN X111.here hx (Jvm.hb hby at_114) ((if0 _ _).trans (teq hc114).2) (q := 117) rfl ?_
    refine Go.iconst X111.here hx (Jvm.hb hby at_117) (v := (1 : Int32)) rfl (q := 118) rfl ?_
    refine Go.goto X111.here hx (Jvm.hb hby at_118) (by decide) (q := 122) rfl ?_
    refine Go.retZ X111 hx hret hlk (Jvm.hb hby at_122) (Or.inr rfl) (by decide) (by decide) ?_
    exact ⟨rfl, N111⟩
  · -- pc 4: not u3 = (0 : Int32)
    refine Go.ifY X0.here hx (Jvm.hb hby at_4) ((if0 _ _).trans (feq hc4).2) (by decide) (q := 11) rfl ?_
    refine Go.lloadN X0.here hx (Jvm.hb hby at_11) rfl (q := 12) rfl ?_
    refine Go.ldc2J X0 hx hown (mvT hZ (word hw 27 rfl)) (Jvm.hb hby at_12) (q := 15) rfl ?_
    obtain ⟨pp, hpp⟩ : ∃ zq, q1 &&& (2147483647 : Int64) = zq := ⟨_, rfl⟩
    refine Go.land X0.here hx (Jvm.hb hby at_15) hpp (q := 16) rfl ?_
    refine Go.lstore X0.here hx (Jvm.hb hby at_16) (l2 := #[.val (.long q1), .second, .val (.long q2), .second, .val (.int q3), .val (.int q4), .val (.int q5), .val (.long pp), .second, .unset, .unset, .unset, .unset, .unset, .unset, .unset, .unset, .unset, .unset, .unset, .unset, .unset]) rfl (q := 18) rfl ?_
    refine Go.lloadN X0.here hx (Jvm.hb hby at_18) rfl (q := 19) rfl ?_
    refine Go.ldc2J X0 hx hown (mvT hZ (word hw 0 rfl)) (Jvm.hb hby at_19) (q := 22) rfl ?_
    obtain ⟨tt, htt⟩ : ∃ zq, q2 &&& (4611686018427387903 : Int64) = zq := ⟨_, rfl⟩
    refine Go.land X0.here hx (Jvm.hb hby at_22) htt (q := 23) rfl ?_
    refine Go.lstore X0.here hx (Jvm.hb hby at_23) (l2 := #[.val (.long q1), .second, .val (.long q2), .second, .val (.int q3), .val (.int q4), .val (.int q5), .val (.long pp), .second, .val (.long tt), .second, .unset, .unset, .unset, .unset, .unset, .unset, .unset, .unset, .unset, .unset, .unset]) rfl (q := 25) rfl ?_
    refine Go.iload X0.here hx (Jvm.hb hby at_25) rfl (q := 27) rfl ?_
    obtain ⟨u27, hu27⟩ : ∃ zq, Int32.toInt64 q3 = zq := ⟨_, rfl⟩
    refine Go.i2l X0.here hx (Jvm.hb hby at_27) hu27 (q := 28) rfl ?_
    refine Go.ldc2J X0 hx hown (mvT hZ (word hw 1 rfl)) (Jvm.hb hby at_28) (q := 31) rfl ?_
    obtain ⟨kk, hkk⟩ : ∃ zq, u27 &&& (1048575 : Int64) = zq := ⟨_, rfl⟩
    refine Go.land X0.here hx (Jvm.hb hby at_31) hkk (q := 32) rfl ?_
    refine Go.lstore X0.here hx (Jvm.hb hby at_32) (l2 := #[.val (.long q1), .second, .val (.long q2), .second, .val (.int q3), .val (.int q4), .val (.int q5), .val (.long pp), .second, .val (.long tt), .second, .val (.long kk), .second, .unset, .unset, .unset, .unset, .unset, .unset, .unset, .unset, .unset]) rfl (q := 34) rfl ?_
    refine Go.lload X0.here hx (Jvm.hb hby at_34) rfl (q := 36) rfl ?_
    refine Go.lconst X0.here hx (Jvm.hb hby at_36) (v := (0 : Int64)) rfl (q := 37) rfl ?_
    obtain ⟨u37, hu37⟩ : ∃ zq, lcmpW pp (0 : Int64) = zq := ⟨_, rfl⟩
    refine Go.lcmp X0.here hx (Jvm.hb hby at_37) hu37 (q := 38) rfl ?_
    by_cases hc38 : pp = (0 : Int64)
    · -- pc 38: pp = (0 : Int64)
      refine Go.ifN X0.here hx (Jvm.hb hby at_38) ((if0 _ _).trans (teq (hu37 ▸ (lw_eq _ _).mpr hc38)).2) (q := 41) rfl ?_
      refine Go.lconst X0.here hx (Jvm.hb hby at_41) (v := (0 : Int64)) rfl (q := 42) rfl ?_
      refine Go.goto X0.here hx (Jvm.hb hby at_42) (by decide) (q := 54) rfl ?_
      refine Go.lstore X0.here hx (Jvm.hb hby at_54) (l2 := #[.val (.long q1), .second, .val (.long q2), .second, .val (.int q3), .val (.int q4), .val (.int q5), .val (.long pp), .second, .val (.long tt), .second, .val (.long kk), .second, .val (.long (0 : Int64)), .second, .unset, .unset, .unset, .unset, .unset, .unset, .unset]) rfl (q := 56) rfl ?_
      refine Go.lload X0.here hx (Jvm.hb hby at_56) rfl (q := 58) rfl ?_
      refine Go.lconst X0.here hx (Jvm.hb hby at_58) (v := (0 : Int64)) rfl (q := 59) rfl ?_
      obtain ⟨u59, hu59⟩ : ∃ zq, lcmpW pp (0 : Int64) = zq := ⟨_, rfl⟩
      refine Go.lcmp X0.here hx (Jvm.hb hby at_59) hu59 (q := 60) rfl ?_
      have hc60 : pp = (0 : Int64) := hc38
      refine Go.ifN X0.here hx (Jvm.hb hby at_60) ((if0 _ _).trans (teq (hu59 ▸ (lw_eq _ _).mpr hc60)).2) (q := 63) rfl ?_
      refine Go.lload X0.here hx (Jvm.hb hby at_63) rfl (q := 65) rfl ?_
      refine Go.goto X0.here hx (Jvm.hb hby at_65) (by decide) (q := 76) rfl ?_
      refine Go.lstore X0.here hx (Jvm.hb hby at_76) (l2 := #[.val (.long q1), .second, .val (.long q2), .second, .val (.int q3), .val (.int q4), .val (.int q5), .val (.long pp), .second, .val (.long tt), .second, .val (.long kk), .second, .val (.long (0 : Int64)), .second, .val (.long kk), .second, .unset, .unset, .unset, .unset, .unset]) rfl (q := 78) rfl ?_
      refine Go.new X0 hx hZ hown (word hw 2 rfl) (word hw 3 rfl) (word hw 4 rfl) e0 (Jvm.hb hby at_78) (by decide) (by decide) (q := 81) rfl ?_
      intro T117 h117 a117 g117 X117 e117 E117 A117 D117
      have r118 : n0 ≤ a117 := Nat.le_trans Z0 (Nat.le_of_eq g117.symm)
      have F119 : Fld Z h117 a117 "com/example/hale_query/halequery/search/Corpus" "pages" "J" (.long (0 : Int64)) := D117 (Or.inr (word hw 17 rfl)) (ty := .long) (by decide)
      have F120 : Fld Z h117 a117 "com/example/hale_query/halequery/search/Corpus" "terms" "J" (.long (0 : Int64)) := D117 (Or.inr (word hw 19 rfl)) (ty := .long) (by decide)
      have F121 : Fld Z h117 a117 "com/example/hale_query/halequery/search/Corpus" "titleTerms" "J" (.long (0 : Int64)) := D117 (Or.inr (word hw 21 rfl)) (ty := .long) (by decide)
      refine Go.dup X117.here hx (Jvm.hb hby at_81) rfl (q := 82) rfl ?_
      refine Go.lload X117.here hx (Jvm.hb hby at_82) rfl (q := 84) rfl ?_
      refine Go.lload X117.here hx (Jvm.hb hby at_84) rfl (q := 86) rfl ?_
      refine Go.lload X117.here hx (Jvm.hb hby at_86) rfl (q := 88) rfl ?_
      obtain ⟨tot, htot⟩ : ∃ zq, tt + kk = zq := ⟨_, rfl⟩
      refine Go.ladd X117.here hx (Jvm.hb hby at_88) htot (q := 89) rfl ?_
      refine Go.lload X117.here hx (Jvm.hb hby at_89) rfl (q := 91) rfl ?_
      have z123 : n0 ≤ h117.size := Nat.le_trans Z0 E117.1
      refine Go.special X117 hx hZ (y := (⟨"com/example/hale_query/halequery/search/Corpus", "<init>", "(JJJ)V"⟩ : MethodName)) rfl hown (word hw 5 rfl) (word hw 6 rfl) (word hw 7 rfl) (word hw 4 rfl) (by decide) (rm_init l Z a0 hw a117 pp tot tt (.long (0 : Int64)) (.long (0 : Int64)) (.long (0 : Int64)) h117 n0 z123 A117 F119 F120 F121 r118) e117 (a := a117) (argsL := [(.long pp), (.long tot), (.long tt)]) (rest := [(.ref a117)]) (W := 1) (Jvm.hb hby at_91) rfl rfl (lenOf (pd1) rfl) (by rw [hml]; rfl) (Nat.le_of_eq rfl) (by decide) (by decide) (by decide) (by decide) (q := 94) rfl ?_
      intro T122 L122 w122 X122 hQ122
      obtain ⟨rfl, M122, K122, P122_0, P122_1, P122_2, P122_3⟩ := hQ122
      have N122 := Fr.app N0 M122
      show Go p e below _ (T122.setTop (mkF m 94 #[.val (.long q1), .second, .val (.long q2), .second, .val (.int q3), .val (.int q4), .val (.int q5), .val (.long pp), .second, .val (.long tt), .second, .val (.long kk), .second, .val (.long (0 : Int64)), .second, .val (.long kk), .second, .unset, .unset, .unset, .unset, .unset] [(.ref a117)]))
      refine Go.astore X122.here hx (Jvm.hb hby at_94) rfl (l2 := #[.val (.long q1), .second, .val (.long q2), .second, .val (.int q3), .val (.int q4), .val (.int q5), .val (.long pp), .second, .val (.long tt), .second, .val (.long kk), .second, .val (.long (0 : Int64)), .second, .val (.long kk), .second, .val (.ref a117), .unset, .unset, .unset, .unset]) rfl (q := 96) rfl ?_
      refine Go.aload X122.here hx (Jvm.hb hby at_96) rfl rfl (q := 98) rfl ?_
      have z125 : n0 ≤ T122.heap.size := Nat.le_trans z123 K122.1
      refine Go.virtual X122 hx hZ (y := (⟨"com/example/hale_query/halequery/search/Corpus", "averageContentsLength", "()D"⟩ : MethodName)) hown (word hw 22 rfl) (word hw 23 rfl) (word hw 25 rfl) (word hw 24 rfl) (word hw 26 rfl) (word hw 4 rfl) (by decide) (rm_avg l Z a0 hw a117 pp tot tt T122.heap n0 z125 P122_1 P122_2 P122_3) rfl P122_0  (argsL := []) (rest := []) (W := 0) (Jvm.hb hby at_98) rfl rfl (lenOf (pd2) rfl) (by rw [hml]; rfl) (Nat.le_of_eq rfl) (by decide) (by decide) (by decide) (by decide) (q := 101) rfl ?_
      intro T124 L124 w124 X124 hQ124
      obtain ⟨rfl, M124, q124⟩ := hQ124
      have N124 := Fr.app N122 M124
      show Go p e below _ (T124.setTop (mkF m 101 #[.val (.long q1), .second, .val (.long q2), .second, .val (.int q3), .val (.int q4), .val (.int q5), .val (.long pp), .second, .val (.long tt), .second, .val (.long kk), .second, .val (.long (0 : Int64)), .second, .val (.long kk), .second, .val (.ref a117), .unset, .unset, .unset, .unset] [(.double (own_avg pp tot tt))]))
      obtain ⟨avg, havg⟩ : ∃ zq, (own_avg pp tot tt) = zq := ⟨_, rfl⟩
      rw [havg]
      refine Go.dstore X124.here hx (Jvm.hb hby at_101) (l2 := #[.val (.long q1), .second, .val (.long q2), .second, .val (.int q3), .val (.int q4), .val (.int q5), .val (.long pp), .second, .val (.long tt), .second, .val (.long kk), .second, .val (.long (0 : Int64)), .second, .val (.long kk), .second, .val (.ref a117), .val (.double avg), .second, .unset, .unset]) rfl (q := 103) rfl ?_
      refine Go.lload X124.here hx (Jvm.hb hby at_103) rfl (q := 105) rfl ?_
      refine Go.lconst X124.here hx (Jvm.hb hby at_105) (v := (0 : Int64)) rfl (q := 106) rfl ?_
      obtain ⟨u106, hu106⟩ : ∃ zq, lcmpW pp (0 : Int64) = zq := ⟨_, rfl⟩
      refine Go.lcmp X124.here hx (Jvm.hb hby at_106) hu106 (q := 107) rfl ?_
      have hc107 : pp = (0 : Int64) := hc38
      refine Go.ifN X124.here hx (Jvm.hb hby at_107) ((if0 _ _).trans (teq (hu106 ▸ (lw_eq _ _).mpr hc107)).2) (q := 110) rfl ?_
      refine Go.dload X124.here hx (Jvm.hb hby at_110) rfl (q := 112) rfl ?_
      refine Go.dconst0 X124.here hx (Jvm.hb hby at_112) (v := (0 : UInt64)) rfl (q := 113) rfl ?_
      obtain ⟨u113, hu113⟩ : ∃ zq, cmpValue (FP.dcmp avg (0 : UInt64)) .l = zq := ⟨_, rfl⟩
      refine Go.dcmp X124.here hx (Jvm.hb hby at_113) hu113 (q := 114) rfl ?_
      have hc114 : u113 = (0 : Int32) := own_zero hc38 havg hu113
      refine Go.ifN X124.here hx (Jvm.hb hby at_114) ((if0 _ _).trans (teq hc114).2) (q := 117) rfl ?_
      refine Go.iconst X124.here hx (Jvm.hb hby at_117) (v := (1 : Int32)) rfl (q := 118) rfl ?_
      refine Go.goto X124.here hx (Jvm.hb hby at_118) (by decide) (q := 122) rfl ?_
      refine Go.retZ X124 hx hret hlk (Jvm.hb hby at_122) (Or.inr rfl) (by decide) (by decide) ?_
      exact ⟨rfl, N124⟩
    · -- pc 38: not pp = (0 : Int64)
      refine Go.ifY X0.here hx (Jvm.hb hby at_38) ((if0 _ _).trans (feq (fun z => hc38 ((lw_eq _ _).mp (hu37.symm ▸ z)))).2) (by decide) (q := 45) rfl ?_
      refine Go.iload X0.here hx (Jvm.hb hby at_45) rfl (q := 47) rfl ?_
      refine Go.ldcI X0 hx hown (mvT hZ (word hw 28 rfl)) (Jvm.hb hby at_47) (q := 49) rfl ?_
      obtain ⟨u49, hu49⟩ : ∃ zq, q4 &&& (2147483647 : Int32) = zq := ⟨_, rfl⟩
      refine Go.iand X0.here hx (Jvm.hb hby at_49) hu49 (q := 50) rfl ?_
      obtain ⟨u50, hu50⟩ : ∃ zq, Int32.toInt64 u49 = zq := ⟨_, rfl⟩
      refine Go.i2l X0.here hx (Jvm.hb hby at_50) hu50 (q := 51) rfl ?_
      refine Go.lload X0.here hx (Jvm.hb hby at_51) rfl (q := 53) rfl ?_
      obtain ⟨rr, hrr⟩ : ∃ zq, u50 - (u50 / pp) * pp = zq := ⟨_, rfl⟩
      refine Go.lrem X0.here hx (Jvm.hb hby at_53) hc38 hrr (q := 54) rfl ?_
      refine Go.lstore X0.here hx (Jvm.hb hby at_54) (l2 := #[.val (.long q1), .second, .val (.long q2), .second, .val (.int q3), .val (.int q4), .val (.int q5), .val (.long pp), .second, .val (.long tt), .second, .val (.long kk), .second, .val (.long rr), .second, .unset, .unset, .unset, .unset, .unset, .unset, .unset]) rfl (q := 56) rfl ?_
      refine Go.lload X0.here hx (Jvm.hb hby at_56) rfl (q := 58) rfl ?_
      refine Go.lconst X0.here hx (Jvm.hb hby at_58) (v := (0 : Int64)) rfl (q := 59) rfl ?_
      obtain ⟨u59, hu59⟩ : ∃ zq, lcmpW pp (0 : Int64) = zq := ⟨_, rfl⟩
      refine Go.lcmp X0.here hx (Jvm.hb hby at_59) hu59 (q := 60) rfl ?_
      have hc60 : ¬ (pp = (0 : Int64)) := hc38
      refine Go.ifY X0.here hx (Jvm.hb hby at_60) ((if0 _ _).trans (feq (fun z => hc60 ((lw_eq _ _).mp (hu59.symm ▸ z)))).2) (by decide) (q := 68) rfl ?_
      refine Go.lload X0.here hx (Jvm.hb hby at_68) rfl (q := 70) rfl ?_
      refine Go.lload X0.here hx (Jvm.hb hby at_70) rfl (q := 72) rfl ?_
      obtain ⟨u72, hu72⟩ : ∃ zq, kk * pp = zq := ⟨_, rfl⟩
      refine Go.lmul X0.here hx (Jvm.hb hby at_72) hu72 (q := 73) rfl ?_
      refine Go.lload X0.here hx (Jvm.hb hby at_73) rfl (q := 75) rfl ?_
      obtain ⟨cc, hcc⟩ : ∃ zq, u72 + rr = zq := ⟨_, rfl⟩
      refine Go.ladd X0.here hx (Jvm.hb hby at_75) hcc (q := 76) rfl ?_
      refine Go.lstore X0.here hx (Jvm.hb hby at_76) (l2 := #[.val (.long q1), .second, .val (.long q2), .second, .val (.int q3), .val (.int q4), .val (.int q5), .val (.long pp), .second, .val (.long tt), .second, .val (.long kk), .second, .val (.long rr), .second, .val (.long cc), .second, .unset, .unset, .unset, .unset, .unset]) rfl (q := 78) rfl ?_
      refine Go.new X0 hx hZ hown (word hw 2 rfl) (word hw 3 rfl) (word hw 4 rfl) e0 (Jvm.hb hby at_78) (by decide) (by decide) (q := 81) rfl ?_
      intro T129 h129 a129 g129 X129 e129 E129 A129 D129
      have r130 : n0 ≤ a129 := Nat.le_trans Z0 (Nat.le_of_eq g129.symm)
      have F131 : Fld Z h129 a129 "com/example/hale_query/halequery/search/Corpus" "pages" "J" (.long (0 : Int64)) := D129 (Or.inr (word hw 17 rfl)) (ty := .long) (by decide)
      have F132 : Fld Z h129 a129 "com/example/hale_query/halequery/search/Corpus" "terms" "J" (.long (0 : Int64)) := D129 (Or.inr (word hw 19 rfl)) (ty := .long) (by decide)
      have F133 : Fld Z h129 a129 "com/example/hale_query/halequery/search/Corpus" "titleTerms" "J" (.long (0 : Int64)) := D129 (Or.inr (word hw 21 rfl)) (ty := .long) (by decide)
      refine Go.dup X129.here hx (Jvm.hb hby at_81) rfl (q := 82) rfl ?_
      refine Go.lload X129.here hx (Jvm.hb hby at_82) rfl (q := 84) rfl ?_
      refine Go.lload X129.here hx (Jvm.hb hby at_84) rfl (q := 86) rfl ?_
      refine Go.lload X129.here hx (Jvm.hb hby at_86) rfl (q := 88) rfl ?_
      obtain ⟨tot, htot⟩ : ∃ zq, tt + cc = zq := ⟨_, rfl⟩
      refine Go.ladd X129.here hx (Jvm.hb hby at_88) htot (q := 89) rfl ?_
      refine Go.lload X129.here hx (Jvm.hb hby at_89) rfl (q := 91) rfl ?_
      have z135 : n0 ≤ h129.size := Nat.le_trans Z0 E129.1
      refine Go.special X129 hx hZ (y := (⟨"com/example/hale_query/halequery/search/Corpus", "<init>", "(JJJ)V"⟩ : MethodName)) rfl hown (word hw 5 rfl) (word hw 6 rfl) (word hw 7 rfl) (word hw 4 rfl) (by decide) (rm_init l Z a0 hw a129 pp tot tt (.long (0 : Int64)) (.long (0 : Int64)) (.long (0 : Int64)) h129 n0 z135 A129 F131 F132 F133 r130) e129 (a := a129) (argsL := [(.long pp), (.long tot), (.long tt)]) (rest := [(.ref a129)]) (W := 1) (Jvm.hb hby at_91) rfl rfl (lenOf (pd1) rfl) (by rw [hml]; rfl) (Nat.le_of_eq rfl) (by decide) (by decide) (by decide) (by decide) (q := 94) rfl ?_
      intro T134 L134 w134 X134 hQ134
      obtain ⟨rfl, M134, K134, P134_0, P134_1, P134_2, P134_3⟩ := hQ134
      have N134 := Fr.app N0 M134
      show Go p e below _ (T134.setTop (mkF m 94 #[.val (.long q1), .second, .val (.long q2), .second, .val (.int q3), .val (.int q4), .val (.int q5), .val (.long pp), .second, .val (.long tt), .second, .val (.long kk), .second, .val (.long rr), .second, .val (.long cc), .second, .unset, .unset, .unset, .unset, .unset] [(.ref a129)]))
      refine Go.astore X134.here hx (Jvm.hb hby at_94) rfl (l2 := #[.val (.long q1), .second, .val (.long q2), .second, .val (.int q3), .val (.int q4), .val (.int q5), .val (.long pp), .second, .val (.long tt), .second, .val (.long kk), .second, .val (.long rr), .second, .val (.long cc), .second, .val (.ref a129), .unset, .unset, .unset, .unset]) rfl (q := 96) rfl ?_
      refine Go.aload X134.here hx (Jvm.hb hby at_96) rfl rfl (q := 98) rfl ?_
      have z137 : n0 ≤ T134.heap.size := Nat.le_trans z135 K134.1
      refine Go.virtual X134 hx hZ (y := (⟨"com/example/hale_query/halequery/search/Corpus", "averageContentsLength", "()D"⟩ : MethodName)) hown (word hw 22 rfl) (word hw 23 rfl) (word hw 25 rfl) (word hw 24 rfl) (word hw 26 rfl) (word hw 4 rfl) (by decide) (rm_avg l Z a0 hw a129 pp tot tt T134.heap n0 z137 P134_1 P134_2 P134_3) rfl P134_0  (argsL := []) (rest := []) (W := 0) (Jvm.hb hby at_98) rfl rfl (lenOf (pd2) rfl) (by rw [hml]; rfl) (Nat.le_of_eq rfl) (by decide) (by decide) (by decide) (by decide) (q := 101) rfl ?_
      intro T136 L136 w136 X136 hQ136
      obtain ⟨rfl, M136, q136⟩ := hQ136
      have N136 := Fr.app N134 M136
      show Go p e below _ (T136.setTop (mkF m 101 #[.val (.long q1), .second, .val (.long q2), .second, .val (.int q3), .val (.int q4), .val (.int q5), .val (.long pp), .second, .val (.long tt), .second, .val (.long kk), .second, .val (.long rr), .second, .val (.long cc), .second, .val (.ref a129), .unset, .unset, .unset, .unset] [(.double (own_avg pp tot tt))]))
      obtain ⟨avg, havg⟩ : ∃ zq, (own_avg pp tot tt) = zq := ⟨_, rfl⟩
      rw [havg]
      refine Go.dstore X136.here hx (Jvm.hb hby at_101) (l2 := #[.val (.long q1), .second, .val (.long q2), .second, .val (.int q3), .val (.int q4), .val (.int q5), .val (.long pp), .second, .val (.long tt), .second, .val (.long kk), .second, .val (.long rr), .second, .val (.long cc), .second, .val (.ref a129), .val (.double avg), .second, .unset, .unset]) rfl (q := 103) rfl ?_
      refine Go.lload X136.here hx (Jvm.hb hby at_103) rfl (q := 105) rfl ?_
      refine Go.lconst X136.here hx (Jvm.hb hby at_105) (v := (0 : Int64)) rfl (q := 106) rfl ?_
      obtain ⟨u106, hu106⟩ : ∃ zq, lcmpW pp (0 : Int64) = zq := ⟨_, rfl⟩
      refine Go.lcmp X136.here hx (Jvm.hb hby at_106) hu106 (q := 107) rfl ?_
      have hc107 : ¬ (pp = (0 : Int64)) := hc38
      refine Go.ifY X136.here hx (Jvm.hb hby at_107) ((if0 _ _).trans (feq (fun z => hc107 ((lw_eq _ _).mp (hu106.symm ▸ z)))).2) (by decide) (q := 123) rfl ?_
      refine Go.lload X136.here hx (Jvm.hb hby at_123) rfl (q := 125) rfl ?_
      obtain ⟨kd, hkd⟩ : ∃ zq, FP.l2d kk = zq := ⟨_, rfl⟩
      refine Go.l2d X136.here hx (Jvm.hb hby at_125) hkd (q := 126) rfl ?_
      have M := own_math hpp hu27 hkk hu49 hu50 hrr hu72 hcc htot hc38 havg hkd
      refine Go.dstore X136.here hx (Jvm.hb hby at_126) (l2 := #[.val (.long q1), .second, .val (.long q2), .second, .val (.int q3), .val (.int q4), .val (.int q5), .val (.long pp), .second, .val (.long tt), .second, .val (.long kk), .second, .val (.long rr), .second, .val (.long cc), .second, .val (.ref a129), .val (.double avg), .second, .val (.double kd), .second]) rfl (q := 128) rfl ?_
      refine Go.lload X136.here hx (Jvm.hb hby at_128) rfl (q := 130) rfl ?_
      refine Go.lconst X136.here hx (Jvm.hb hby at_130) (v := (0 : Int64)) rfl (q := 131) rfl ?_
      obtain ⟨u131, hu131⟩ : ∃ zq, lcmpW rr (0 : Int64) = zq := ⟨_, rfl⟩
      refine Go.lcmp X136.here hx (Jvm.hb hby at_131) hu131 (q := 132) rfl ?_
      by_cases hc132 : rr = (0 : Int64)
      · -- pc 132: rr = (0 : Int64)
        refine Go.ifN X136.here hx (Jvm.hb hby at_132) ((if0 _ _).trans (teq (hu131 ▸ (lw_eq _ _).mpr hc132)).2) (q := 135) rfl ?_
        refine Go.dload X136.here hx (Jvm.hb hby at_135) rfl (q := 137) rfl ?_
        refine Go.dload X136.here hx (Jvm.hb hby at_137) rfl (q := 139) rfl ?_
        obtain ⟨u139, hu139⟩ : ∃ zq, cmpValue (FP.dcmp avg kd) .l = zq := ⟨_, rfl⟩
        refine Go.dcmp X136.here hx (Jvm.hb hby at_139) hu139 (q := 140) rfl ?_
        have hc140 : u139 = (0 : Int32) := by rw [← hu139]; exact M.2.1 hc132
        refine Go.ifN X136.here hx (Jvm.hb hby at_140) ((if0 _ _).trans (teq hc140).2) (q := 143) rfl ?_
        refine Go.iconst X136.here hx (Jvm.hb hby at_143) (v := (1 : Int32)) rfl (q := 144) rfl ?_
        refine Go.goto X136.here hx (Jvm.hb hby at_144) (by decide) (q := 148) rfl ?_
        refine Go.retZ X136 hx hret hlk (Jvm.hb hby at_148) (Or.inr rfl) (by decide) (by decide) ?_
        exact ⟨rfl, N136⟩
      · -- pc 132: not rr = (0 : Int64)
        refine Go.ifY X136.here hx (Jvm.hb hby at_132) ((if0 _ _).trans (feq (fun z => hc132 ((lw_eq _ _).mp (hu131.symm ▸ z)))).2) (by decide) (q := 149) rfl ?_
        refine Go.dload X136.here hx (Jvm.hb hby at_149) rfl (q := 151) rfl ?_
        refine Go.dload X136.here hx (Jvm.hb hby at_151) rfl (q := 153) rfl ?_
        obtain ⟨u153, hu153⟩ : ∃ zq, cmpValue (FP.dcmp kd avg) .g = zq := ⟨_, rfl⟩
        refine Go.dcmp X136.here hx (Jvm.hb hby at_153) hu153 (q := 154) rfl ?_
        have hc154 : u153 < (0 : Int32) := by rw [← hu153]; exact (M.2.2 hc132).1
        refine Go.ifN X136.here hx (Jvm.hb hby at_154) ((if0 _ _).trans (tlt hc154).2.1) (q := 157) rfl ?_
        refine Go.dload X136.here hx (Jvm.hb hby at_157) rfl (q := 159) rfl ?_
        refine Go.dload X136.here hx (Jvm.hb hby at_159) rfl (q := 161) rfl ?_
        refine Go.dconst1 X136.here hx (Jvm.hb hby at_161) (v := (4607182418800017408 : UInt64)) rfl (q := 162) rfl ?_
        obtain ⟨u162, hu162⟩ : ∃ zq, FP.dadd kd (4607182418800017408 : UInt64) = zq := ⟨_, rfl⟩
        refine Go.dadd X136.here hx (Jvm.hb hby at_162) M.1 hu162 (q := 163) rfl ?_
        obtain ⟨u163, hu163⟩ : ∃ zq, cmpValue (FP.dcmp avg u162) .g = zq := ⟨_, rfl⟩
        refine Go.dcmp X136.here hx (Jvm.hb hby at_163) hu163 (q := 164) rfl ?_
        have hc164 : u163 < (0 : Int32) := by rw [← hu163, ← hu162]; exact (M.2.2 hc132).2
        refine Go.ifN X136.here hx (Jvm.hb hby at_164) ((if0 _ _).trans (tlt hc164).2.1) (q := 167) rfl ?_
        refine Go.iconst X136.here hx (Jvm.hb hby at_167) (v := (1 : Int32)) rfl (q := 168) rfl ?_
        refine Go.goto X136.here hx (Jvm.hb hby at_168) (by decide) (q := 172) rfl ?_
        refine Go.retZ X136 hx hret hlk (Jvm.hb hby at_172) (Or.inr rfl) (by decide) (by decide) ?_
        exact ⟨rfl, N136⟩
set_option maxRecDepth 65536 in
set_option maxHeartbeats 40000000 in
theorem comes_1 {Post : Tables → Env → Array Value → State → Outcome → State → Prop} (hpost : ∀ tb e args s v u, (limb_1_1.after args s (.returned v) u = true ∧ limb_1_2.after args s (.returned v) u = true ∧ True) → FrameEnd s (.returned v) u (Jvm.fieldLocs frame_1_writes args s ++ Jvm.arrayLocs frame_1_arrays args s ++ Jvm.staticLocs frame_1_statics s) 16 128 → Post tb e args s (.returned v) u) :
    ArmFor flags0 classFile x code maxLocals ret World_1 tables_1 room_1 Calls_1 rest_1 Pre_1 Post := by
  intro l hfl _ _ p e ha hc hk s m args below hf hA hF happ hP
  obtain ⟨hcalls, hrest, hpre⟩ := hP
  obtain ⟨-, -, -, hnamed, -, -, -, hat⟩ := (Spec.applies_iff hf).mp happ
  obtain ⟨hg, hn⟩ := and_e (Cond.before_iff.mp (show (Jvm.Cond.and given_1 narrow_1).before args s = true from hpre))
  obtain ⟨g0, hg⟩ := and_e hg
  obtain ⟨w0, w1, w2, w3, w4, rfl⟩ : ∃ w0 w1 w2 w3 w4 : Value, args = #[w0, w1, w2, w3, w4] := by
    have hs : args.size = 5 := by simpa [Cond.value, given_1] using g0
    obtain ⟨L⟩ := args
    match L, hs with
    | [w0, w1, w2, w3, w4], _ => exact ⟨w0, w1, w2, w3, w4, rfl⟩
  have hw := fun d (hd : d ∈ tables_1) => atoms_spec (ws := Jvm.Cond.code x code maxLocals ret :: tables_1) hat d (List.mem_cons_of_mem _ hd)
  obtain ⟨g1, hg⟩ := and_e hg
  obtain ⟨i0, e0⟩ := isL_v g1
  obtain rfl : w0 = (.long i0) := Option.some.inj e0
  obtain ⟨g2, hg⟩ := and_e hg
  obtain ⟨i1, e1⟩ := isL_v g2
  obtain rfl : w1 = (.long i1) := Option.some.inj e1
  obtain ⟨g3, hg⟩ := and_e hg
  obtain ⟨i2, e2⟩ := is_v g3
  obtain rfl : w2 = (.int i2) := Option.some.inj e2
  obtain ⟨g4, hg⟩ := and_e hg
  obtain ⟨i3, e3⟩ := is_v g4
  obtain rfl : w3 = (.int i3) := Option.some.inj e3
  obtain ⟨i4, e4⟩ := is_v hg
  obtain rfl : w4 = (.int i4) := Option.some.inj e4
  obtain ⟨n, o, h1, h2, h3, _, L, rfl, ⟨rfl, N⟩, hq⟩ := rm_law l s _ hw tables_1 i0 i1 i2 i3 i4  s.heap s.heap.size (Nat.le_refl _)  p e ha hc hk s m _ below hf ((Spec.applies_iff_loose hf).mp happ).1 ⟨rfl, State.Warmed39.refl s, rfl⟩ trivial
  refine ⟨n, _, h1, h2, h3, hpost _ _ _ _ _ _ ⟨Cond.after_iff.mpr rfl, Cond.after_iff.mpr (eq_i res_at (Term.int_eval (1)) rfl), trivial⟩ ⟨hq.1, hq.2.1, (hq.2.2.sift fun y hy => Or.inr (N y hy)).mono (by decide) (by decide)⟩⟩
theorem main_1_1 : Claimed_1_1 := comes_1 fun _ _ _ _ _ _ h hF => ⟨h.1, hF⟩
theorem main_1_2 : Claimed_1_2 := comes_1 fun _ _ _ _ _ _ h hF => ⟨h.2.1, hF⟩
end Jvm.Pilot.@@N@@
namespace Jvm.Pilot.@@N@@
open Jvm Jvm.ClassFile Sem Op Lib Jvm.Free Jvm.Stand Jvm.Pilot.@@N@@.Jvm.D
/-! MADE BY PROGRAM (witnessworld.py) out of the Statement's table words and the real class files: 10 classes; the members and pool entries that the words name. The judged class is class 1, her method 1. -/
namespace start1
open Jvm.ClassFile
def u (s : String) : CpInfo := .utf8 (stringToUtf16 s)
/-- a pool by its gaps: so many unusable entries, then the entry; so many at the end -/
def gap : Nat → List CpInfo → List CpInfo
  | 0, r => r
  | n + 1, r => .unusable :: gap n r
def poolList (es : List (Nat × CpInfo)) (last : Nat) : List CpInfo := es.foldr (fun e r => gap e.1 (e.2 :: r)) (gap last [])
def pool (es : List (Nat × CpInfo)) (last : Nat) : Array CpInfo := ⟨poolList es last⟩
def fileOf (pool : Array CpInfo) (this : Nat) (attrs : Array Attribute := #[]) (ms : Array MethodInfo := #[]) (fl : Nat := 33) (sup : Nat := 0) (ifs : Array Nat := #[]) (fds : Array FieldInfo := #[]) : ClassFile where
  minorVersion := 0
  majorVersion := 65
  constantPool := pool
  accessFlags := fl
  thisClass := this
  superClass := sup
  interfaces := ifs
  fields := fds
  methods := ms
  attributes := attrs
def plain (name : String) (sup : Option ClassId) : Class where
  name := name
  kind := .ordinary
  loader := none
  accessFlags := 33
  super := sup
  interfaces := #[]
  cf := none
  fields := #[]
  methods := #[]
  instanceTypes := #[]
  staticTypes := #[]
  resolved := #[]
  callSites := []
  init := .initialized
  statics := none
  mirror := none

def pool0 : Array CpInfo := pool [(5, u "<init>"), (0, u "()V"), (1, .class_ 10), (1, u "java/lang/Object")] 113

def k0c0 : Code := { maxStack := 0, maxLocals := 1, code := object_method_1_code, exceptionTable := #[], attributes := #[] }
def k0m0 : Method := { name := "<init>", desc := "()V", sig := { parameters := [], returnType := none }, accessFlags := 1, code := some k0c0 }
/-- java/lang/Object -/
def k0 : Class := { plain "java/lang/Object" none with
  accessFlags := 33
  interfaces := #[]
  cf := some (fileOf pool0 8 #[] #[{ accessFlags := 1, nameIndex := 5, descriptorIndex := 6, attributes := #[] }] 33 0 #[] #[])
  fields := #[]
  methods := #[k0m0]
  instanceTypes := #[]
  staticTypes := #[]
  resolved := Array.replicate 124 none
  statics := none }

def pool1 : Array CpInfo := pool [(2, .class_ 4), (1, u "java/lang/Object"), (0, u "<init>"), (0, u "()V"), (0, .long 2147483647), (1, .long 4611686018427387903), (1, .long 1048575), (1, .integer 2147483647), (0, .class_ 15), (0, u "com/example/hale_query/halequery/search/Corpus"), (0, .methodref 14 17), (0, .nameAndType 5 18), (0, u "(JJJ)V"), (0, .methodref 14 20), (0, .nameAndType 21 22), (0, u "averageContentsLength"), (0, u "()D"), (0, .class_ 24), (0, u "com/example/hale_query/halequery/search/CorpusAverageContentsLengthPinLaw"), (2, u "law"), (0, u "(JJIII)Z")] 3

def k1m0 : Method := { name := "<init>", desc := "()V", sig := { parameters := [], returnType := none }, accessFlags := 1, code := none }
def k1c1 : Code := { maxStack := 8, maxLocals := 22, code := code, exceptionTable := #[], attributes := #[] }
def k1m1 : Method := { name := "law", desc := "(JJIII)Z", sig := { parameters := [.long, .long, .int, .int, .int], returnType := some .boolean }, accessFlags := 9, code := some k1c1 }
/-- com/example/hale_query/halequery/search/CorpusAverageContentsLengthPinLaw -/
def k1 : Class := { plain "com/example/hale_query/halequery/search/CorpusAverageContentsLengthPinLaw" (some 0) with
  accessFlags := 49
  interfaces := #[]
  cf := some (fileOf pool1 23 #[] #[{ accessFlags := 1, nameIndex := 5, descriptorIndex := 6, attributes := #[] }, { accessFlags := 9, nameIndex := 27, descriptorIndex := 28, attributes := #[] }] 49 2 #[] #[])
  fields := #[]
  methods := #[k1m0, k1m1]
  instanceTypes := #[]
  staticTypes := #[]
  resolved := Array.replicate 32 none
  statics := none }

def pool2 : Array CpInfo := pool [(1, .methodref 2 3), (0, .class_ 4), (0, .nameAndType 5 6), (0, u "java/lang/Object"), (0, u "<init>"), (0, u "()V"), (0, .class_ 8), (0, u "java/lang/Record")] 13

def k2c0 : Code := { maxStack := 1, maxLocals := 1, code := jdk_30_method_1_code, exceptionTable := #[], attributes := #[] }
def k2m0 : Method := { name := "<init>", desc := "()V", sig := { parameters := [], returnType := none }, accessFlags := 4, code := some k2c0 }
/-- java/lang/Record -/
def k2 : Class := { plain "java/lang/Record" (some 0) with
  accessFlags := 1057
  interfaces := #[]
  cf := some (fileOf pool2 7 #[] #[{ accessFlags := 4, nameIndex := 5, descriptorIndex := 6, attributes := #[] }] 1057 2 #[] #[])
  fields := #[]
  methods := #[k2m0]
  instanceTypes := #[]
  staticTypes := #[]
  resolved := Array.replicate 22 none
  statics := none }

def pool3 : Array CpInfo := pool [(1, .methodref 2 3), (0, .class_ 4), (0, .nameAndType 5 6), (0, u "java/lang/Record"), (0, u "<init>"), (0, u "()V"), (0, .fieldref 8 9), (0, .class_ 10), (0, .nameAndType 11 12), (0, u "com/example/hale_query/halequery/search/Corpus"), (0, u "pages"), (0, u "J"), (0, .fieldref 8 14), (0, .nameAndType 15 12), (0, u "terms"), (0, .fieldref 8 17), (0, .nameAndType 18 12), (0, u "titleTerms"), (12, u "(JJJ)V"), (4, u "()D"), (1, u "averageContentsLength")] 26

def k3c0 : Code := { maxStack := 3, maxLocals := 7, code := prog_41_method_1_code, exceptionTable := #[], attributes := #[] }
def k3m0 : Method := { name := "<init>", desc := "(JJJ)V", sig := { parameters := [.long, .long, .long], returnType := none }, accessFlags := 1, code := some k3c0 }
def k3c1 : Code := { maxStack := 4, maxLocals := 1, code := prog_41_method_3_code, exceptionTable := #[], attributes := #[] }
def k3m1 : Method := { name := "averageContentsLength", desc := "()D", sig := { parameters := [], returnType := some .double }, accessFlags := 1, code := some k3c1 }
/-- com/example/hale_query/halequery/search/Corpus -/
def k3 : Class := { plain "com/example/hale_query/halequery/search/Corpus" (some 2) with
  accessFlags := 49
  interfaces := #[]
  cf := some (fileOf pool3 8 #[] #[{ accessFlags := 1, nameIndex := 5, descriptorIndex := 31, attributes := #[] }, { accessFlags := 1, nameIndex := 38, descriptorIndex := 36, attributes := #[] }] 49 2 #[] #[{ accessFlags := 18, nameIndex := 11, descriptorIndex := 12, attributes := #[] }, { accessFlags := 18, nameIndex := 15, descriptorIndex := 12, attributes := #[] }, { accessFlags := 18, nameIndex := 18, descriptorIndex := 12, attributes := #[] }])
  fields := #[{ name := "pages", type := .long, accessFlags := 18, slot := 0, constantValue := 0 }, { name := "terms", type := .long, accessFlags := 18, slot := 1, constantValue := 0 }, { name := "titleTerms", type := .long, accessFlags := 18, slot := 2, constantValue := 0 }]
  methods := #[k3m0, k3m1]
  instanceTypes := #[.long, .long, .long]
  staticTypes := #[]
  resolved := Array.replicate 65 none
  statics := none }

def pool4 : Array CpInfo := pool [(1, u "java/lang/Cloneable"), (0, .class_ 1), (0, u "java/lang/Object"), (0, .class_ 3)] 3

/-- java/lang/Cloneable -/
def k4 : Class := { plain "java/lang/Cloneable" (some 0) with
  accessFlags := 1537
  interfaces := #[]
  cf := some (fileOf pool4 2 #[] #[] 1537 4 #[] #[])
  fields := #[]
  methods := #[]
  instanceTypes := #[]
  staticTypes := #[]
  resolved := Array.replicate 8 none
  statics := none }

def pool5 : Array CpInfo := pool [(1, u "java/io/Serializable"), (0, .class_ 1), (0, u "java/lang/Object"), (0, .class_ 3)] 3

/-- java/io/Serializable -/
def k5 : Class := { plain "java/io/Serializable" (some 0) with
  accessFlags := 1537
  interfaces := #[]
  cf := some (fileOf pool5 2 #[] #[] 1537 4 #[] #[])
  fields := #[]
  methods := #[]
  instanceTypes := #[]
  staticTypes := #[]
  resolved := Array.replicate 8 none
  statics := none }

/-- the primitive byte -/
def k6 : Class := { plain "byte" none with kind := .primitive 'B', accessFlags := 0x411 }
/-- [B -/
def k7 : Class := { plain "[B" (some 0) with kind := .array 6 .byte, interfaces := #[4, 5], accessFlags := 1041 }

/-- the primitive int -/
def k8 : Class := { plain "int" none with kind := .primitive 'I', accessFlags := 0x411 }
/-- [I -/
def k9 : Class := { plain "[I" (some 0) with kind := .array 8 .int, interfaces := #[4, 5], accessFlags := 1041 }

def heap : Heap := #[]
def classes : Array Class := #[k0, k1, k2, k3, k4, k5, k6, k7, k8, k9]
def interned : List (Array UInt16 × Addr) := []
def slotsUsed : Nat := 0
def theMethod : MethodId := ⟨1, 1⟩
def args0 : Array Value := #[.long 5, .long 7, .int 11, .int 3, .int 1]
def aboutOver (below : List Frame) : State where
  vm := { classes := classes, interned := interned.toArray }
  heap := heap
  slotsUsed := slotsUsed
  threads := #[{ frames := .invoking theMethod args0 :: below }]
def below0 : List Frame := [.native { method := ⟨0, 0⟩, args := #[] }]
def about1 : State := aboutOver below0
def p0 : Program := .bare "" "" ""
def e0 : Env := launch0.env 0 0 0
theorem w_frames : about1.frames = Frame.invoking theMethod args0 :: below0 := rfl
set_option maxRecDepth 65536 in
theorem w_args : argsFit about1.vm theMethod args0 = true := by decide +kernel
set_option maxRecDepth 65536 in
theorem w_heap : heapFits about1 = true := by decide +kernel
set_option maxRecDepth 65536 in
theorem w_runnable : about1.curStatus? = some .runnable := by decide +kernel
set_option maxRecDepth 65536 in
theorem w_alone : about1.alone = true := by decide +kernel
set_option maxRecDepth 65536 in
theorem w_named : about1.methodNamed? x = some theMethod := by decide +kernel
set_option maxRecDepth 65536 in
theorem w_hears : about1.hears theMethod below0 = true := by decide +kernel
set_option maxRecDepth 65536 in
theorem w_ripe : about1.ripe theMethod args0 below0 = true := by decide +kernel
theorem w_running : about1.status = .running := rfl
set_option maxRecDepth 65536 in
theorem w_room : about1.hasRoom e0.platform room_1 = true :=
  launch0.hasRoom_least _ room_1 (by decide +kernel) (by decide +kernel) (by decide +kernel) (by decide +kernel) (by decide +kernel) (by decide +kernel)
theorem allAtoms_all (ts : List Jvm.Cond) (a : Array Jvm.Value) (st : Jvm.State) : (allAtoms ts).before a st = ts.all (fun c => c.before a st) := by
  induction ts with
  | nil => rfl
  | cons c t ih =>
    show (Jvm.Cond.and c (allAtoms t)).before a st = _
    rw [Jvm.Cond.before_and, ih, List.all_cons]
def words1 : List Jvm.Cond := Jvm.Cond.code x code maxLocals ret :: tables_1
/-- a 'code' word, met by the world's own term for the bytes: nothing is compared byte by byte -/
theorem code_word {y : MethodName} {bytes : ByteArray} {mx : Nat} {rt : Option FieldType} {a : Array Value} {s : State} {m : MethodId} {meth : Method} {c : Code} (h1 : s.methodNamed? y = some m) (h2 : s.vm.method? m = some meth) (h3 : meth.code = some c) (h4 : c.code = bytes)
    (h5 : (c.maxLocals == mx && c.exceptionTable.isEmpty && decide (c.maxStack ≤ mostOperands) && decide (meth.sig.returnType = rt) && !meth.locks && decide (parseMethodDescriptor y.desc = some meth.sig)) = true) : (Jvm.Cond.code y bytes mx rt).before a s = true := by
  simp only [Bool.and_eq_true, beq_iff_eq, Bool.not_eq_true', decide_eq_true_eq] at h5
  obtain ⟨⟨⟨⟨⟨g1, g2⟩, g3⟩, g4⟩, g5⟩, g6⟩ := h5
  simp [Cond.before, Cond.holds, Cond.value, h1, h2, h3, h4, g1, g2, g3, g4, g5, g6]
def isCode : Jvm.Cond → Bool
  | .code _ _ _ _ => true
  | _ => false
theorem all_split {L : List Jvm.Cond} {P : Jvm.Cond → Bool} (h1 : L.all (fun c => isCode c || P c) = true) (h2 : ∀ c ∈ L.filter isCode, P c = true) : L.all P = true := by
  refine List.all_eq_true.mpr fun c hc => ?_
  have h := List.all_eq_true.mp h1 c hc
  rcases Bool.eq_false_or_eq_true (isCode c) with hi | hi
  · exact h2 c (List.mem_filter.mpr ⟨hc, hi⟩)
  · simpa [hi] using h
set_option maxRecDepth 65536 in
theorem w_c0 : (Jvm.Cond.code x code maxLocals ret).before args0 about1 = true := code_word (m := ⟨1, 1⟩) (meth := k1m1) (c := k1c1) (by decide +kernel) rfl rfl rfl (by decide +kernel)
set_option maxRecDepth 65536 in
theorem w_c1 : (Jvm.Cond.code ({ cls := "com/example/hale_query/halequery/search/Corpus", name := "<init>", desc := "(JJJ)V" } : Jvm.MethodName) prog_41_method_1_code (7 : Nat) (Option.none : Option Jvm.ClassFile.FieldType)).before args0 about1 = true := code_word (m := ⟨3, 0⟩) (meth := k3m0) (c := k3c0) (by decide +kernel) rfl rfl rfl (by decide +kernel)
set_option maxRecDepth 65536 in
theorem w_c2 : (Jvm.Cond.code ({ cls := "java/lang/Record", name := "<init>", desc := "()V" } : Jvm.MethodName) jdk_30_method_1_code (1 : Nat) (Option.none : Option Jvm.ClassFile.FieldType)).before args0 about1 = true := code_word (m := ⟨2, 0⟩) (meth := k2m0) (c := k2c0) (by decide +kernel) rfl rfl rfl (by decide +kernel)
set_option maxRecDepth 65536 in
theorem w_c3 : (Jvm.Cond.code ({ cls := "java/lang/Object", name := "<init>", desc := "()V" } : Jvm.MethodName) object_method_1_code (1 : Nat) (Option.none : Option Jvm.ClassFile.FieldType)).before args0 about1 = true := code_word (m := ⟨0, 0⟩) (meth := k0m0) (c := k0c0) (by decide +kernel) rfl rfl rfl (by decide +kernel)
set_option maxRecDepth 65536 in
theorem w_c4 : (Jvm.Cond.code ({ cls := "com/example/hale_query/halequery/search/Corpus", name := "averageContentsLength", desc := "()D" } : Jvm.MethodName) prog_41_method_3_code (1 : Nat) (Option.some Jvm.ClassFile.FieldType.double)).before args0 about1 = true := code_word (m := ⟨3, 1⟩) (meth := k3m1) (c := k3c1) (by decide +kernel) rfl rfl rfl (by decide +kernel)
def codes1 : List Jvm.Cond := [Jvm.Cond.code x code maxLocals ret, Jvm.Cond.code ({ cls := "com/example/hale_query/halequery/search/Corpus", name := "<init>", desc := "(JJJ)V" } : Jvm.MethodName) prog_41_method_1_code (7 : Nat) (Option.none : Option Jvm.ClassFile.FieldType), Jvm.Cond.code ({ cls := "java/lang/Record", name := "<init>", desc := "()V" } : Jvm.MethodName) jdk_30_method_1_code (1 : Nat) (Option.none : Option Jvm.ClassFile.FieldType), Jvm.Cond.code ({ cls := "java/lang/Object", name := "<init>", desc := "()V" } : Jvm.MethodName) object_method_1_code (1 : Nat) (Option.none : Option Jvm.ClassFile.FieldType), Jvm.Cond.code ({ cls := "com/example/hale_query/halequery/search/Corpus", name := "averageContentsLength", desc := "()D" } : Jvm.MethodName) prog_41_method_3_code (1 : Nat) (Option.some Jvm.ClassFile.FieldType.double)]
set_option maxRecDepth 65536 in
theorem codes_eq : words1.filter isCode = codes1 := rfl
theorem w_codes : ∀ c ∈ words1.filter isCode, c.before args0 about1 = true := by
  rw [codes_eq]
  intro c hc
  simp only [codes1, List.mem_cons, List.not_mem_nil, or_false] at hc
  rcases hc with rfl | rfl | rfl | rfl | rfl
  · exact w_c0
  · exact w_c1
  · exact w_c2
  · exact w_c3
  · exact w_c4
set_option maxRecDepth 65536 in
theorem w_t1 : (words1.take 24).all (fun c => isCode c || c.before args0 about1) = true := by decide +kernel
set_option maxRecDepth 65536 in
theorem w_t2 : (words1.drop 24).all (fun c => isCode c || c.before args0 about1) = true := by decide +kernel
theorem w_tables : (allAtoms (Jvm.Cond.code x code maxLocals ret :: tables_1)).before args0 about1 = true := by
  rw [allAtoms_all]
  show words1.all (fun c => c.before args0 about1) = true
  refine all_split ?_ w_codes
  rw [← List.take_append_drop 24 words1, List.all_append, w_t1, w_t2]
  rfl
set_option maxRecDepth 65536 in
theorem w_case : (Jvm.Cond.and given_1 narrow_1).before args0 about1 = true := by decide +kernel
theorem w_applies : (headSpec (Jvm.Cond.code x code maxLocals ret :: tables_1) room_1).applies x e0.platform about1 = true :=
  (Spec.applies_iff w_frames).mpr ⟨w_running, w_runnable, w_alone, w_named, w_hears, w_ripe, w_room, w_tables⟩
theorem atStart : AtStart classFile x code maxLocals ret World_1 tables_1 room_1 Calls_1 rest_1 Pre_1 launch0 p0 e0 about1 theMethod args0 below0 :=
  ⟨lists_1, trivial, launch0.admits_env _ _ _, launch0.least_env, fairChoices_fair.cas, fairChoices_fair.clock, w_frames, w_args, w_heap, w_applies, trivial, trivial, w_case⟩
end start1
theorem witness_1 : WitnessClaimed_1 := ⟨start1.p0, start1.e0, start1.about1, start1.theMethod, start1.args0, start1.below0, start1.atStart⟩
end Jvm.Pilot.@@N@@
