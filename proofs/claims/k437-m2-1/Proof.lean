import JvmDerived
import JvmDerived.Pilot.@@N@@Statement
import JvmDerived.Pilot.@@N@@Code
set_option linter.unusedVariables false
set_option linter.unusedSimpArgs false
namespace Jvm.Pilot.@@N@@
open Jvm Jvm.ClassFile Sem Op Lib Jvm.Free Jvm.Stand Jvm.LawKit Jvm.RoadKit Bundle Jvm.Pilot.@@N@@.Jvm.D
/-! own layer 1: doubles as whole numbers of least units (2 to the -1074) -/
section OwnFp
open Jvm.FP Jvm.FP.Core Jvm.Free.Fl
/-- a power of two -/
def P2 (j : Nat) : Int := ((2 ^ j : Nat) : Int)
theorem P2_pos (j : Nat) : 0 < P2 j := Int.natCast_pos.mpr (Nat.two_pow_pos j)
theorem P2_add (i j : Nat) : P2 (i + j) = P2 i * P2 j := by unfold P2; rw [Nat.pow_add, Int.natCast_mul]
theorem P2_one64 : (one64 : Int) = P2 1074 := rfl
/-- the value of a double in least units -/
def Zv (a : UInt64) : Int := zval b64 (val64 a)
/-- some finite double has this value -/
def Rep (V : Int) : Prop := ∃ x : UInt64, DFin x ∧ Zv x = V
theorem own_qmax : b64.qmax = 971 := by decide
theorem own_signed_abs (c : Int) : signed (decide (c < 0)) c.natAbs = c := by
  unfold signed
  by_cases q : c < 0
  · simp [q]; omega
  · simp [q]; omega
theorem rep_core (s : Bool) {c j : Nat} (hc : c < 2 ^ 53) (hj : j ≤ 2045) : ∃ x : UInt64, DFin x ∧ Zv x = signed s (c * 2 ^ j) := by
  obtain ⟨c', q', h1, h2⟩ := round_exact (f := b64) good_b64 s (c := c) (q := (j : Int) - 1074) hc (by rw [qmin_b64]; omega) (by rw [own_qmax]; omega)
  refine ⟨of64 (round b64 (.fin s c ((j : Int) - 1074))), ⟨s, c', q', ?_⟩, ?_⟩
  · rw [val64_of64 (round_fits good_b64 _), h1]
  · unfold Zv
    rw [val64_of64 (round_fits good_b64 _), h1]
    show signed s (inUnits c' q' b64.qmin) = _
    rw [h2]
    unfold inUnits
    rw [show ((j : Int) - 1074 - b64.qmin).toNat = j by rw [qmin_b64]; omega]
theorem rep_mk (c : Int) (j : Nat) (hc : c.natAbs ≤ 2 ^ 53) (hj : j ≤ 2044) : Rep (c * P2 j) := by
  by_cases h : c.natAbs < 2 ^ 53
  · obtain ⟨x, h1, h2⟩ := rep_core (decide (c < 0)) h (j := j) (by omega)
    refine ⟨x, h1, h2.trans ?_⟩
    rw [signed_mul, own_signed_abs]; rfl
  · have h' : c.natAbs = 2 ^ 53 := by omega
    obtain ⟨x, h1, h2⟩ := rep_core (decide (c < 0)) (c := 2 ^ 52) (by decide) (j := j + 1) (by omega)
    refine ⟨x, h1, h2.trans ?_⟩
    have e : 2 ^ 52 * 2 ^ (j + 1) = c.natAbs * 2 ^ j := by
      rw [h', Nat.pow_add 2 j 1]
      generalize 2 ^ j = t
      omega
    rw [e, signed_mul, own_signed_abs]; rfl
theorem rep_of {V : Int} (c : Int) (j : Nat) (hc : c.natAbs ≤ 2 ^ 53) (hj : j ≤ 2044) (h : V = c * P2 j) : Rep V := h ▸ rep_mk c j hc hj
theorem rep_int (n : Int) (h : n.natAbs ≤ 2 ^ 53) : Rep (n * P2 1074) := rep_mk n 1074 h (by decide)
theorem rep_zero : Rep 0 := rep_of 0 0 (by decide) (by decide) (by simp)
theorem rep_self {x : UInt64} (h : DFin x) : Rep (Zv x) := ⟨x, h, rfl⟩
theorem rep_neg {V : Int} (h : Rep V) : Rep (-V) := by
  obtain ⟨x, hx, rfl⟩ := h
  obtain ⟨s, c, q, hv⟩ := hx
  refine ⟨Core.dneg x, ⟨!s, c, q, ?_⟩, ?_⟩
  · rw [Core.val64_dneg, hv]; rfl
  · unfold Zv; rw [Core.val64_dneg, zval_negate]
/-- between two finite values: finite -/
theorem fin_between {x : UInt64} (hn : val64 x ≠ .nan) {L H : Int} (hL : Rep L) (hH : Rep H) (h1 : L ≤ Zv x) (h2 : Zv x ≤ H) : DFin x := by
  cases hv : val64 x with
  | nan => exact absurd hv hn
  | fin s c q => exact ⟨s, c, q, hv⟩
  | inf s =>
    exfalso
    obtain ⟨y, hy, rfl⟩ := hL
    obtain ⟨z, hz, rfl⟩ := hH
    have a1 := hy.zval_lt
    have a2 := hz.zval_lt
    have e : Zv x = signed s (b64.tails * 2 ^ (b64.exps - 2)) := by unfold Zv; rw [hv]; rfl
    have b1 : signed (sgn (val64 y)) (zmag b64 (val64 y)) ≤ signed s (b64.tails * 2 ^ (b64.exps - 2)) := e ▸ h1
    have b2 : signed s (b64.tails * 2 ^ (b64.exps - 2)) ≤ signed (sgn (val64 z)) (zmag b64 (val64 z)) := e ▸ h2
    generalize b64.tails * 2 ^ (b64.exps - 2) = top at *
    generalize zmag b64 (val64 y) = my at *
    generalize zmag b64 (val64 z) = mz at *
    generalize sgn (val64 y) = sy at *
    generalize sgn (val64 z) = sz at *
    cases s <;> cases sy <;> cases sz <;> simp only [signed, if_true, Bool.false_eq_true, if_false] at b1 b2 <;> omega
theorem not_nan {x : UInt64} (h : Core.dIsNaN x = false) : val64 x ≠ .nan := (notNaN_iff x).mp h
theorem nn_of {x : UInt64} (h : DFin x) : NoNaN64 x := (fin64_core.mpr h).noNaN
/-! sums -/
theorem add_le {a b : UInt64} (ha : DFin a) (hb : DFin b) {V : Int} (hV : Rep V) (h : Zv a + Zv b ≤ V) : Zv (FP.dadd a b) ≤ V := by
  obtain ⟨x, hx, rfl⟩ := hV
  unfold Zv at h ⊢
  rw [val64_dadd]
  exact sum_le good_b64 ha hb (val64_fits a) (val64_fits b) (val64_fits x) hx.ne_nan h
theorem add_ge {a b : UInt64} (ha : DFin a) (hb : DFin b) {V : Int} (hV : Rep V) (h : V ≤ Zv a + Zv b) : V ≤ Zv (FP.dadd a b) := by
  obtain ⟨x, hx, rfl⟩ := hV
  unfold Zv at h ⊢
  rw [val64_dadd]
  exact sum_ge good_b64 ha hb (val64_fits a) (val64_fits b) (val64_fits x) hx.ne_nan h
theorem add_in {a b : UInt64} (ha : DFin a) (hb : DFin b) {L H : Int} (hL : Rep L) (hH : Rep H) (h1 : L ≤ Zv a + Zv b) (h2 : Zv a + Zv b ≤ H) : DFin (FP.dadd a b) ∧ L ≤ Zv (FP.dadd a b) ∧ Zv (FP.dadd a b) ≤ H :=
  ⟨fin_between (not_nan (Core.dadd_out ha.notNaN hb)) hL hH (add_ge ha hb hL h1) (add_le ha hb hH h2), add_ge ha hb hL h1, add_le ha hb hH h2⟩
theorem add_eq {a b : UInt64} (ha : DFin a) (hb : DFin b) {V : Int} (hV : Rep V) (h : Zv a + Zv b = V) : DFin (FP.dadd a b) ∧ Zv (FP.dadd a b) = V := by
  obtain ⟨h1, h2, h3⟩ := add_in ha hb hV hV (Int.le_of_eq h.symm) (Int.le_of_eq h)
  exact ⟨h1, Int.le_antisymm h3 h2⟩
/-! signs -/
theorem neg_eq {a : UInt64} (ha : DFin a) : DFin (FP.dneg a) ∧ Zv (FP.dneg a) = -Zv a := by
  obtain ⟨s, c, q, hv⟩ := ha
  constructor
  · exact ⟨!s, c, q, by rw [FP.val64_dneg, hv]; rfl⟩
  · unfold Zv; rw [FP.val64_dneg, zval_negate]
theorem cneg_eq {a : UInt64} (ha : DFin a) : DFin (Core.dneg a) ∧ Zv (Core.dneg a) = -Zv a := by
  obtain ⟨s, c, q, hv⟩ := ha
  constructor
  · exact ⟨!s, c, q, by rw [Core.val64_dneg, hv]; rfl⟩
  · unfold Zv; rw [Core.val64_dneg, zval_negate]
/-! differences -/
theorem sub_in {a b : UInt64} (ha : DFin a) (hb : DFin b) {L H : Int} (hL : Rep L) (hH : Rep H) (h1 : L ≤ Zv a - Zv b) (h2 : Zv a - Zv b ≤ H) : DFin (FP.dsub a b) ∧ L ≤ Zv (FP.dsub a b) ∧ Zv (FP.dsub a b) ≤ H := by
  obtain ⟨n1, n2⟩ := cneg_eq hb
  have e : FP.dsub a b = FP.dadd a (Core.dneg b) := Core.dsub_eq a b
  rw [e]
  exact add_in ha n1 hL hH (by rw [n2]; omega) (by rw [n2]; omega)
theorem sub_eq {a b : UInt64} (ha : DFin a) (hb : DFin b) {V : Int} (hV : Rep V) (h : Zv a - Zv b = V) : DFin (FP.dsub a b) ∧ Zv (FP.dsub a b) = V := by
  obtain ⟨h1, h2, h3⟩ := sub_in ha hb hV hV (Int.le_of_eq h.symm) (Int.le_of_eq h)
  exact ⟨h1, Int.le_antisymm h3 h2⟩
/-! products -/
theorem own_q2 : (b64.qmin - 2 * b64.qmin).toNat = 1074 := by rw [qmin_b64]; decide
theorem mul_le {a b : UInt64} (ha : DFin a) (hb : DFin b) {V : Int} (hV : Rep V) (h : Zv a * Zv b ≤ V * P2 1074) : Zv (FP.dmul a b) ≤ V := by
  obtain ⟨x, hx, rfl⟩ := hV
  obtain ⟨s, c, q, hva⟩ := ha
  obtain ⟨t, d, r, hvb⟩ := hb
  have fa := val64_fits a
  have fb := val64_fits b
  unfold Zv at h ⊢
  rw [hva] at fa h
  rw [hvb] at fb h
  obtain ⟨p1, p2, p3⟩ := product_units fa fb
  rw [val64_dmul, hva, hvb, p1]
  refine zval_round_le good_b64 (val64_fits x) hx.ne_nan (e0 := 2 * b64.qmin) (by rw [qmin_b64]; decide) p2 ?_
  rw [p3, signed_xor, own_q2]
  exact h
theorem mul_ge {a b : UInt64} (ha : DFin a) (hb : DFin b) {V : Int} (hV : Rep V) (h : V * P2 1074 ≤ Zv a * Zv b) : V ≤ Zv (FP.dmul a b) := by
  obtain ⟨x, hx, rfl⟩ := hV
  obtain ⟨s, c, q, hva⟩ := ha
  obtain ⟨t, d, r, hvb⟩ := hb
  have fa := val64_fits a
  have fb := val64_fits b
  unfold Zv at h ⊢
  rw [hva] at fa h
  rw [hvb] at fb h
  obtain ⟨p1, p2, p3⟩ := product_units fa fb
  rw [val64_dmul, hva, hvb, p1]
  refine zval_round_ge good_b64 (val64_fits x) hx.ne_nan (e0 := 2 * b64.qmin) (by rw [qmin_b64]; decide) p2 ?_
  rw [p3, signed_xor, own_q2]
  exact h
theorem mul_in {a b : UInt64} (ha : DFin a) (hb : DFin b) {L H : Int} (hL : Rep L) (hH : Rep H) (h1 : L * P2 1074 ≤ Zv a * Zv b) (h2 : Zv a * Zv b ≤ H * P2 1074) : DFin (FP.dmul a b) ∧ L ≤ Zv (FP.dmul a b) ∧ Zv (FP.dmul a b) ≤ H :=
  ⟨fin_between (not_nan (Core.dmul_out ha hb)) hL hH (mul_ge ha hb hL h1) (mul_le ha hb hH h2), mul_ge ha hb hL h1, mul_le ha hb hH h2⟩
theorem mul_eq {a b : UInt64} (ha : DFin a) (hb : DFin b) {V : Int} (hV : Rep V) (h : Zv a * Zv b = V * P2 1074) : DFin (FP.dmul a b) ∧ Zv (FP.dmul a b) = V := by
  obtain ⟨h1, h2, h3⟩ := mul_in ha hb hV hV (Int.le_of_eq h.symm) (Int.le_of_eq h)
  exact ⟨h1, Int.le_antisymm h3 h2⟩
/-! quotients by a positive number -/
theorem own_sgn_le {s t : Bool} {A V B r : Nat} (hB : 0 < B) (hle : A ≤ V * B → r ≤ V) (hge : V * B ≤ A → V ≤ r) (h : signed s A ≤ signed t V * (B : Int)) : signed s r ≤ signed t V := by
  rw [← signed_mul] at h
  have hz : V * B = 0 → V = 0 := fun q => by rcases Nat.mul_eq_zero.mp q with q | q <;> omega
  generalize V * B = vb at *
  cases s <;> cases t <;> simp only [signed, if_true, Bool.false_eq_true, if_false] at h ⊢
  · have := hle (by omega); omega
  · have := hle (by omega); have := hz (by omega); omega
  · omega
  · have := hge (by omega); omega
theorem own_sgn_ge {s t : Bool} {A V B r : Nat} (hB : 0 < B) (hle : A ≤ V * B → r ≤ V) (hge : V * B ≤ A → V ≤ r) (h : signed t V * (B : Int) ≤ signed s A) : signed t V ≤ signed s r := by
  rw [← signed_mul] at h
  have hz : V * B = 0 → V = 0 := fun q => by rcases Nat.mul_eq_zero.mp q with q | q <;> omega
  generalize V * B = vb at *
  cases s <;> cases t <;> simp only [signed, if_true, Bool.false_eq_true, if_false] at h ⊢
  · have := hge (by omega); omega
  · omega
  · have := hle (by omega); have := hz (by omega); omega
  · have := hle (by omega); omega
theorem div_core {a b : UInt64} (ha : DFin a) (hb : DFin b) (hp : 0 < Zv b) (x : UInt64) (hx : DFin x) :
    ∃ (s : Bool) (A B : Nat), (B : Int) = Zv b ∧ signed s A = Zv a * P2 1074 ∧ 0 < B ∧ ∃ r, Zv (FP.ddiv a b) = signed s r ∧ (A ≤ zmag b64 (val64 x) * B → r ≤ zmag b64 (val64 x)) ∧ (zmag b64 (val64 x) * B ≤ A → zmag b64 (val64 x) ≤ r) := by
  obtain ⟨s, c, q, hva⟩ := ha
  obtain ⟨t, d, r, hvb⟩ := hb
  have fa := val64_fits a
  have fb := val64_fits b
  rw [hva] at fa
  rw [hvb] at fb
  have f1 := fa.2.1
  have f2 := fb.2.1
  have zb : Zv b = signed t (inUnits d r b64.qmin) := by unfold Zv; rw [hvb]; rfl
  have hd : 0 < d := by
    rcases Nat.eq_zero_or_pos d with q0 | q0
    · rw [zb, q0] at hp
      have : inUnits 0 r b64.qmin = 0 := Nat.zero_mul _
      rw [this, signed_zero] at hp; omega
    · exact q0
  have ht : t = false := by
    cases t with
    | false => rfl
    | true => rw [zb] at hp; simp only [signed, if_true] at hp; omega
  subst ht
  have hB : 0 < inUnits d r b64.qmin := Nat.mul_pos hd (Nat.two_pow_pos _)
  have e1 : inUnits c (q - r) (2 * b64.qmin - r) = inUnits c q b64.qmin * 2 ^ 1074 := by
    unfold inUnits
    rw [Nat.mul_assoc, ← Nat.pow_add]
    rw [qmin_b64] at *
    congr 2; omega
  have e2 : 2 ^ (b64.qmin - (2 * b64.qmin - r)).toNat * d = inUnits d r b64.qmin := by
    unfold inUnits
    rw [Nat.mul_comm]; congr 2; omega
  have hv : val64 (FP.ddiv a b) = roundRatio b64 s c d (q - r) := by
    rw [val64_ddiv, hva, hvb]
    show (if d = 0 then _ else roundRatio b64 (s != false) c d (q - r)) = _
    rw [if_neg (by omega)]
    cases s <;> rfl
  refine ⟨s, inUnits c q b64.qmin * 2 ^ 1074, inUnits d r b64.qmin, ?_, ?_, hB, zmag b64 (roundRatio b64 s c d (q - r)), ?_, ?_, ?_⟩
  · rw [zb]; simp only [signed, Bool.false_eq_true, if_false]
  · unfold Zv; rw [signed_mul, hva]; rfl
  · unfold Zv; rw [hv]; show signed (sgn _) _ = _; rw [sgn_roundRatio]
  · intro h
    refine zmag_roundRatio_le good_b64 hd (val64_fits x) hx.ne_nan (e0 := 2 * b64.qmin - r) (by have := qmin_b64; omega) (by have := qmin_b64; omega) ?_
    rw [e1, Nat.mul_assoc, e2]; exact h
  · intro h
    refine zmag_roundRatio_ge good_b64 hd (val64_fits x) (e0 := 2 * b64.qmin - r) (by have := qmin_b64; omega) (by have := qmin_b64; omega) ?_
    rw [e1, Nat.mul_assoc, e2]; exact h
theorem div_le {a b : UInt64} (ha : DFin a) (hb : DFin b) (hp : 0 < Zv b) {V : Int} (hV : Rep V) (h : Zv a * P2 1074 ≤ V * Zv b) : Zv (FP.ddiv a b) ≤ V := by
  obtain ⟨x, hx, rfl⟩ := hV
  obtain ⟨s, A, B, h1, h2, h3, r, h4, h5, h6⟩ := div_core ha hb hp x hx
  rw [h4]
  rw [← h2, ← h1] at h
  exact own_sgn_le h3 h5 h6 h
theorem div_ge {a b : UInt64} (ha : DFin a) (hb : DFin b) (hp : 0 < Zv b) {V : Int} (hV : Rep V) (h : V * Zv b ≤ Zv a * P2 1074) : V ≤ Zv (FP.ddiv a b) := by
  obtain ⟨x, hx, rfl⟩ := hV
  obtain ⟨s, A, B, h1, h2, h3, r, h4, h5, h6⟩ := div_core ha hb hp x hx
  rw [h4]
  rw [← h2, ← h1] at h
  exact own_sgn_ge h3 h5 h6 h
theorem pos_nz {b : UInt64} (hp : 0 < Zv b) : ¬ DZero b := fun q => by
  have := q.zval
  unfold Zv at hp
  omega
theorem div_in {a b : UInt64} (ha : DFin a) (hb : DFin b) (hp : 0 < Zv b) {L H : Int} (hL : Rep L) (hH : Rep H) (h1 : L * Zv b ≤ Zv a * P2 1074) (h2 : Zv a * P2 1074 ≤ H * Zv b) : DFin (FP.ddiv a b) ∧ L ≤ Zv (FP.ddiv a b) ∧ Zv (FP.ddiv a b) ≤ H :=
  ⟨fin_between (not_nan (Core.ddiv_out ha.notNaN hb (pos_nz hp))) hL hH (div_ge ha hb hp hL h1) (div_le ha hb hp hH h2), div_ge ha hb hp hL h1, div_le ha hb hp hH h2⟩
theorem div_eq {a b : UInt64} (ha : DFin a) (hb : DFin b) (hp : 0 < Zv b) {V : Int} (hV : Rep V) (h : Zv a * P2 1074 = V * Zv b) : DFin (FP.ddiv a b) ∧ Zv (FP.ddiv a b) = V := by
  obtain ⟨h1, h2, h3⟩ := div_in ha hb hp hV hV (Int.le_of_eq h.symm) (Int.le_of_eq h)
  exact ⟨h1, Int.le_antisymm h3 h2⟩
/-! whole numbers -/
theorem l2d_in {n : Int64} {L H : Int} (hL : Rep L) (hH : Rep H) (h1 : L ≤ n.toInt * P2 1074) (h2 : n.toInt * P2 1074 ≤ H) : L ≤ Zv (FP.l2d n) ∧ Zv (FP.l2d n) ≤ H := by
  obtain ⟨x, hx, rfl⟩ := hL
  obtain ⟨y, hy, rfl⟩ := hH
  exact ⟨l2d_zval_ge hx.ne_nan h1, l2d_zval_le hy.ne_nan h2⟩
theorem l2d_dfin (n : Int64) : DFin (FP.l2d n) := Core.l2d_fin n
theorem i2d_dfin (n : Int32) : DFin (FP.i2d n) := Core.i2d_fin n
theorem l2d_rep {n : Int64} (h : Rep (n.toInt * P2 1074)) : Zv (FP.l2d n) = n.toInt * P2 1074 := by
  obtain ⟨h1, h2⟩ := l2d_in h h (Int.le_refl _) (Int.le_refl _)
  exact Int.le_antisymm h2 h1
theorem l2d_eq {n : Int64} (h : n.toInt.natAbs ≤ 2 ^ 53) : Zv (FP.l2d n) = n.toInt * P2 1074 := l2d_rep (rep_int _ h)
theorem i2d_eq (n : Int32) : Zv (FP.i2d n) = n.toInt * P2 1074 := by
  rw [i2d_w, l2d_eq (by rw [Int32.toInt_toInt64]; have := int32_abs n; omega), Int32.toInt_toInt64]
theorem d2l_eq {a : UInt64} (ha : DFin a) {n : Int} (h : Zv a = n * P2 1074) (h1 : -9223372036854775808 ≤ n) (h2 : n < 9223372036854775808) : (FP.d2l a).toInt = n := by
  have e := d2l_val ha.ne_nan
  have z : signed (sgn (val64 a)) (zmag b64 (val64 a)) = n * (one64 : Int) := h
  have hp := one64_pos
  have hm : zmag b64 (val64 a) = n.natAbs * one64 := by
    have q := congrArg Int.natAbs z
    rw [natAbs_signed, Int.natAbs_mul] at q
    exact q
  have hs : signed (sgn (val64 a)) n.natAbs = n := by
    rw [hm, signed_mul] at z
    exact Int.eq_of_mul_eq_mul_right (by omega) z
  rw [hm, Nat.mul_div_cancel _ hp, hs] at e
  show (Core.d2l a).toInt = n
  rw [e]; omega
/-! comparisons -/
theorem cmp_lt {a b : UInt64} (ha : DFin a) (hb : DFin b) (o : CmpOp) (h : Zv a < Zv b) : cmpValue (FP.dcmp a b) o = -1 := by
  rw [show FP.dcmp a b = some .lt from dcmp_lt.mpr ⟨ha.ne_nan, hb.ne_nan, h⟩]; rfl
theorem cmp_eq {a b : UInt64} (ha : DFin a) (hb : DFin b) (o : CmpOp) (h : Zv a = Zv b) : cmpValue (FP.dcmp a b) o = 0 := by
  rw [show FP.dcmp a b = some .eq from dcmp_eq.mpr ⟨ha.ne_nan, hb.ne_nan, h⟩]; rfl
theorem cmp_gt {a b : UInt64} (ha : DFin a) (hb : DFin b) (o : CmpOp) (h : Zv b < Zv a) : cmpValue (FP.dcmp a b) o = 1 := by
  rw [show FP.dcmp a b = some .gt from dcmp_gt.mpr ⟨ha.ne_nan, hb.ne_nan, h⟩]; rfl
/-! constants -/
theorem zero_fin : DFin 0 := (fin_bits _).mpr (by decide)
theorem zero_z : Zv 0 = 0 := zval64_zero
theorem one_fin : DFin 4607182418800017408 := (fin_bits _).mpr (by decide)
theorem one_z : Zv 4607182418800017408 = 1 * P2 1074 := by unfold Zv P2; decide +kernel
end OwnFp

/-! own layer 2: walking forward -/
section OwnGo
open Jvm.Free.Fl
variable {p : Program} {l : Launch} {e : Env} {R : Room} {s : State} {m : MethodId} {args : Array Value} {below : List Frame} {meth : Method} {c : Code} {T : State} {locs : List Loc} {cells slots : Nat} {Q : Outcome → State → Prop}
/-- from here the run comes to an end that Q allows -/
def Go (p : Program) (e : Env) (below : List Frame) (Q : Outcome → State → Prop) (S : State) : Prop :=
  ∃ s₂ o, Steps p.tables e below S s₂ ∧ s₂.status = .running ∧ Ended s₂ below o ∧ Q o s₂
theorem Go.of {S S' : State} (h : ∀ t, Steps p.tables e below S' t → Steps p.tables e below S t) (g : Go p e below Q S') : Go p e below Q S := by
  obtain ⟨s₂, o, h1, h2⟩ := g
  exact ⟨s₂, o, h _ h1, h2⟩
theorem Go.tr {S S' : State} (h : Steps p.tables e below S S') (g : Go p e below Q S') : Go p e below Q S := Go.of (fun _ k => h.trans k) g
abbrev Ret (s : State) (Qv : Option Value → Heap → List Loc → Prop) (kc ks : Nat) : Outcome → State → Prop := fun o U' => ∃ v L, o = .returned v ∧ Qv v U'.heap L ∧ FrameEnd s o U' L kc ks
theorem Go.done (X : Stand p l e R s m args below meth c T locs cells slots) {g : JFrame} {v : Option Value} (hv : meth.sig.returnType = none → v = none) (hlocks : meth.locks = false)
    (hst : ∀ fs, (∀ (f : JFrame) (acts : List Action), f.method = m → f.locked = none → f.entered = [] → (doReturn e (T.setTop f) acts v).1 = T.setFrames fs) → Steps p.tables e below (T.setTop g) (T.setFrames fs))
    {Qv : Option Value → Heap → List Loc → Prop} {kc ks : Nat} (hc : cells ≤ kc) (hk : slots ≤ ks) (hq : Qv v T.heap locs) : Go p e below (Ret s Qv kc ks) (T.setTop g) := by
  obtain ⟨fs, hr, hrun, hended, hW, hsame⟩ := X.leave (v := v) hv hlocks
  exact ⟨_, _, hst fs hr, hrun, hended, v, locs, rfl, hq, ⟨_, rfl⟩, hW, hsame.mono hc hk⟩
theorem Go.retV (X : Stand p l e R s m args below meth c T locs cells slots) (hx : p.tables.exec = Jvm.exec) {pc : Nat} {Ls : Array Slot} (hret : meth.sig.returnType = none) (hlk : meth.locks = false) (hd : decode c.code pc = .ok (.return_, 1))
    {Qv : Option Value → Heap → List Loc → Prop} {kc ks : Nat} (hc : cells ≤ kc) (hk : slots ≤ ks) (hq : Qv none T.heap locs) : Go p e below (Ret s Qv kc ks) (T.setTop (mkF m pc Ls [])) :=
  Go.done X (fun _ => rfl) hlk (fun _ hr => X.returnOut hx hret hd hr) hc hk hq
theorem Go.retL (X : Stand p l e R s m args below meth c T locs cells slots) (hx : p.tables.exec = Jvm.exec) {pc : Nat} {Ls : Array Slot} {st : List Value} {z : Int64} (hret : meth.sig.returnType = some .long) (hlk : meth.locks = false) (hd : decode c.code pc = .ok (.lreturn, 1))
    {Qv : Option Value → Heap → List Loc → Prop} {kc ks : Nat} (hc : cells ≤ kc) (hk : slots ≤ ks) (hq : Qv (some (.long z)) T.heap locs) : Go p e below (Ret s Qv kc ks) (T.setTop (mkF m pc Ls ((.long z) :: st))) :=
  Go.done X (fun h => by rw [hret] at h; cases h) hlk (fun _ hr => retOut X hx hret rfl (Or.inr (Or.inl ⟨rfl, rfl, z, rfl⟩)) hd hr) hc hk hq
theorem Go.retD (X : Stand p l e R s m args below meth c T locs cells slots) (hx : p.tables.exec = Jvm.exec) {pc : Nat} {Ls : Array Slot} {st : List Value} {z : UInt64} (hret : meth.sig.returnType = some .double) (hlk : meth.locks = false) (hd : decode c.code pc = .ok (.dreturn, 1))
    {Qv : Option Value → Heap → List Loc → Prop} {kc ks : Nat} (hc : cells ≤ kc) (hk : slots ≤ ks) (hq : Qv (some (.double z)) T.heap locs) : Go p e below (Ret s Qv kc ks) (T.setTop (mkF m pc Ls ((.double z) :: st))) :=
  Go.done X (fun h => by rw [hret] at h; cases h) hlk (fun _ hr => retOut X hx hret rfl (Or.inr (Or.inr (Or.inl ⟨rfl, rfl, z, rfl⟩))) hd hr) hc hk hq
theorem Go.retF (X : Stand p l e R s m args below meth c T locs cells slots) (hx : p.tables.exec = Jvm.exec) {pc : Nat} {Ls : Array Slot} {st : List Value} {z : UInt32} (hret : meth.sig.returnType = some .float) (hlk : meth.locks = false) (hd : decode c.code pc = .ok (.freturn, 1))
    {Qv : Option Value → Heap → List Loc → Prop} {kc ks : Nat} (hc : cells ≤ kc) (hk : slots ≤ ks) (hq : Qv (some (.float z)) T.heap locs) : Go p e below (Ret s Qv kc ks) (T.setTop (mkF m pc Ls ((.float z) :: st))) :=
  Go.done X (fun h => by rw [hret] at h; cases h) hlk (fun _ hr => retOut X hx hret rfl (Or.inr (Or.inr (Or.inr (Or.inl ⟨rfl, rfl, z, rfl⟩)))) hd hr) hc hk hq
theorem Go.retI (X : Stand p l e R s m args below meth c T locs cells slots) (hx : p.tables.exec = Jvm.exec) {pc : Nat} {Ls : Array Slot} {st : List Value} {z : Int32} (hret : meth.sig.returnType = some .int) (hlk : meth.locks = false) (hd : decode c.code pc = .ok (.ireturn, 1))
    {Qv : Option Value → Heap → List Loc → Prop} {kc ks : Nat} (hc : cells ≤ kc) (hk : slots ≤ ks) (hq : Qv (some (.int z)) T.heap locs) : Go p e below (Ret s Qv kc ks) (T.setTop (mkF m pc Ls ((.int z) :: st))) :=
  Go.done X (fun h => by rw [hret] at h; cases h) hlk (fun _ hr => retOut X hx hret rfl (Or.inl ⟨rfl, Or.inl rfl, z, rfl⟩) hd hr) hc hk hq
theorem Go.retZ (X : Stand p l e R s m args below meth c T locs cells slots) (hx : p.tables.exec = Jvm.exec) {pc : Nat} {Ls : Array Slot} {st : List Value} {z : Int32} (hret : meth.sig.returnType = some .boolean) (hlk : meth.locks = false) (hd : decode c.code pc = .ok (.ireturn, 1)) (hz : z = 0 ∨ z = 1)
    {Qv : Option Value → Heap → List Loc → Prop} {kc ks : Nat} (hc : cells ≤ kc) (hk : slots ≤ ks) (hq : Qv (some (.int z)) T.heap locs) : Go p e below (Ret s Qv kc ks) (T.setTop (mkF m pc Ls ((.int z) :: st))) :=
  Go.done X (fun h => by rw [hret] at h; cases h) hlk (fun _ hr => retOut X hx hret (by rcases hz with rfl | rfl <;> rfl) (Or.inl ⟨rfl, Or.inr (Or.inl rfl), z, rfl⟩) hd hr) hc hk hq
theorem Go.retA (X : Stand p l e R s m args below meth c T locs cells slots) (hx : p.tables.exec = Jvm.exec) {pc : Nat} {Ls : Array Slot} {st : List Value} {v : Value} {t : FieldType} (hret : meth.sig.returnType = some t) (hlk : meth.locks = false) (hd : decode c.code pc = .ok (.areturn, 1)) (ht : t.isReference = true) (hv : v.isRef = true) (hn : narrow t v = v)
    {Qv : Option Value → Heap → List Loc → Prop} {kc ks : Nat} (hc : cells ≤ kc) (hk : slots ≤ ks) (hq : Qv (some v) T.heap locs) : Go p e below (Ret s Qv kc ks) (T.setTop (mkF m pc Ls (v :: st))) :=
  Go.done X (fun h => by rw [hret] at h; cases h) hlk (fun _ hr => retOut X hx hret hn (Or.inr (Or.inr (Or.inr (Or.inr ⟨rfl, ht, hv⟩)))) hd hr) hc hk hq
theorem enter {l : Launch} {Z : State} {y : MethodName} {bytes : ByteArray} {maxL : Nat} {ret : Option FieldType} {ws : List Jvm.Cond} {rm : Room} {as' : Array Value} {h0 : Heap} {Qv : Option Value → Heap → List Loc → Prop} {Ls : Array Slot} {kc ks : Nat}
    (hpn : plainFor y = true) (hef : ∀ m, entryFrame m as' maxL = mkF m 0 Ls [])
    (body : ∀ (p : Program) (e : Env) (s : State) (m : MethodId) (below : List Frame) (meth : Method) (c : Code) (s₁ : State), p.tables.exec = Jvm.exec → c.code = bytes → c.maxLocals = maxL → s.vm.findClass y.cls = some m.cls → meth.name = y.name → meth.sig.returnType = ret → meth.locks = false → Z.Warmed39 s.vm →
      Stand p l e rm s m as' below meth c s₁ [] 0 0 → s₁.heap = h0 → Go p e below (Ret s Qv kc ks) (s₁.setTop (mkF m 0 Ls []))) :
    MetFree l y (head1 (Jvm.Cond.code y bytes maxL ret :: ws) rm) (fun a U => a = as' ∧ Z.Warmed39 U.vm ∧ U.heap = h0) (fun _ _ _ _ _ => True) (fun _ U o U' => ∃ v L, o = .returned v ∧ Qv v U'.heap L ∧ FrameEnd U o U' L kc ks) := by
  refine MetFree.of_bodySF hpn hisR ?_
  intro p e s m args below meth c s₁ Bd hml0 hP hK
  obtain ⟨rfl, hZ, hh⟩ := hP
  have e0 : s₁.heap = h0 := by rw [← hh, Bd.state]; rfl
  obtain ⟨s₂, o, h1, h2, h3, h4⟩ := body p e s m below meth c s₁ Bd.exec Bd.bytes hml0 (findClass_of_methodNamed Bd.named) (name_of_methodNamed Bd.named Bd.method).1 Bd.returns (BodyLoose.notSynchronized Bd) hZ (Stand.of_body Bd) e0
  exact ⟨s₂, o, castTop (hef m) h1, h2, h3, h4⟩
theorem Go.iload (h : At T m c below) (hx : p.tables.exec = Jvm.exec) {pc q : Nat} {Ls : Array Slot} {st : List Value} {k : Nat} {v : Int32} (hd : decode c.code pc = .ok (.iload k, 2)) (hl : Ls[k]? = some (.val (.int v))) (hq : pc + 2 = q) (g : Go p e below Q (T.setTop (mkF m q Ls (.int v :: st)))) : Go p e below Q (T.setTop (mkF m pc Ls st)) := by
  subst hq; exact Go.of (fun _ r => XS.iload h hx rfl hd hl r) g
theorem Go.iloadN (h : At T m c below) (hx : p.tables.exec = Jvm.exec) {pc q : Nat} {Ls : Array Slot} {st : List Value} {k : Fin 4} {v : Int32} (hd : decode c.code pc = .ok (.iload_n k, 1)) (hl : Ls[k.val]? = some (.val (.int v))) (hq : pc + 1 = q) (g : Go p e below Q (T.setTop (mkF m q Ls (.int v :: st)))) : Go p e below Q (T.setTop (mkF m pc Ls st)) := by
  subst hq; exact Go.of (fun _ r => XS.iloadN h hx rfl hd hl r) g
theorem Go.istore (h : At T m c below) (hx : p.tables.exec = Jvm.exec) {pc q : Nat} {Ls : Array Slot} {st : List Value} {k : Nat} {v : Int32} {l2 : Array Slot} (hd : decode c.code pc = .ok (.istore k, 2)) (hl : storeLocals Ls k (.int v) = some l2) (hq : pc + 2 = q) (g : Go p e below Q (T.setTop (mkF m q l2 st))) : Go p e below Q (T.setTop (mkF m pc Ls (.int v :: st))) := by
  subst hq; exact Go.of (fun _ r => XS.istore h hx rfl hd rfl hl r) g
theorem Go.istoreN (h : At T m c below) (hx : p.tables.exec = Jvm.exec) {pc q : Nat} {Ls : Array Slot} {st : List Value} {k : Fin 4} {v : Int32} {l2 : Array Slot} (hd : decode c.code pc = .ok (.istore_n k, 1)) (hl : storeLocals Ls k.val (.int v) = some l2) (hq : pc + 1 = q) (g : Go p e below Q (T.setTop (mkF m q l2 st))) : Go p e below Q (T.setTop (mkF m pc Ls (.int v :: st))) := by
  subst hq; exact Go.of (fun _ r => XS.istoreN h hx rfl hd rfl hl r) g
theorem Go.lload (h : At T m c below) (hx : p.tables.exec = Jvm.exec) {pc q : Nat} {Ls : Array Slot} {st : List Value} {k : Nat} {v : Int64} (hd : decode c.code pc = .ok (.lload k, 2)) (hl : Ls[k]? = some (.val (.long v))) (hq : pc + 2 = q) (g : Go p e below Q (T.setTop (mkF m q Ls (.long v :: st)))) : Go p e below Q (T.setTop (mkF m pc Ls st)) := by
  subst hq; exact Go.of (fun _ r => XS.lload h hx rfl hd hl r) g
theorem Go.lloadN (h : At T m c below) (hx : p.tables.exec = Jvm.exec) {pc q : Nat} {Ls : Array Slot} {st : List Value} {k : Fin 4} {v : Int64} (hd : decode c.code pc = .ok (.lload_n k, 1)) (hl : Ls[k.val]? = some (.val (.long v))) (hq : pc + 1 = q) (g : Go p e below Q (T.setTop (mkF m q Ls (.long v :: st)))) : Go p e below Q (T.setTop (mkF m pc Ls st)) := by
  subst hq; exact Go.of (fun _ r => XS.lloadN h hx rfl hd hl r) g
theorem Go.lstore (h : At T m c below) (hx : p.tables.exec = Jvm.exec) {pc q : Nat} {Ls : Array Slot} {st : List Value} {k : Nat} {v : Int64} {l2 : Array Slot} (hd : decode c.code pc = .ok (.lstore k, 2)) (hl : storeLocals Ls k (.long v) = some l2) (hq : pc + 2 = q) (g : Go p e below Q (T.setTop (mkF m q l2 st))) : Go p e below Q (T.setTop (mkF m pc Ls (.long v :: st))) := by
  subst hq; exact Go.of (fun _ r => XS.lstore h hx rfl hd rfl hl r) g
theorem Go.lstoreN (h : At T m c below) (hx : p.tables.exec = Jvm.exec) {pc q : Nat} {Ls : Array Slot} {st : List Value} {k : Fin 4} {v : Int64} {l2 : Array Slot} (hd : decode c.code pc = .ok (.lstore_n k, 1)) (hl : storeLocals Ls k.val (.long v) = some l2) (hq : pc + 1 = q) (g : Go p e below Q (T.setTop (mkF m q l2 st))) : Go p e below Q (T.setTop (mkF m pc Ls (.long v :: st))) := by
  subst hq; exact Go.of (fun _ r => XS.lstoreN h hx rfl hd rfl hl r) g
theorem Go.dload (h : At T m c below) (hx : p.tables.exec = Jvm.exec) {pc q : Nat} {Ls : Array Slot} {st : List Value} {k : Nat} {v : UInt64} (hd : decode c.code pc = .ok (.dload k, 2)) (hl : Ls[k]? = some (.val (.double v))) (hq : pc + 2 = q) (g : Go p e below Q (T.setTop (mkF m q Ls (.double v :: st)))) : Go p e below Q (T.setTop (mkF m pc Ls st)) := by
  subst hq; exact Go.of (fun _ r => XS.dload h hx rfl hd hl r) g
theorem Go.dloadN (h : At T m c below) (hx : p.tables.exec = Jvm.exec) {pc q : Nat} {Ls : Array Slot} {st : List Value} {k : Fin 4} {v : UInt64} (hd : decode c.code pc = .ok (.dload_n k, 1)) (hl : Ls[k.val]? = some (.val (.double v))) (hq : pc + 1 = q) (g : Go p e below Q (T.setTop (mkF m q Ls (.double v :: st)))) : Go p e below Q (T.setTop (mkF m pc Ls st)) := by
  subst hq; exact Go.of (fun _ r => XS.dloadN h hx rfl hd hl r) g
theorem Go.dstore (h : At T m c below) (hx : p.tables.exec = Jvm.exec) {pc q : Nat} {Ls : Array Slot} {st : List Value} {k : Nat} {v : UInt64} {l2 : Array Slot} (hd : decode c.code pc = .ok (.dstore k, 2)) (hl : storeLocals Ls k (.double v) = some l2) (hq : pc + 2 = q) (g : Go p e below Q (T.setTop (mkF m q l2 st))) : Go p e below Q (T.setTop (mkF m pc Ls (.double v :: st))) := by
  subst hq; exact Go.of (fun _ r => XS.dstore h hx rfl hd rfl hl r) g
theorem Go.dstoreN (h : At T m c below) (hx : p.tables.exec = Jvm.exec) {pc q : Nat} {Ls : Array Slot} {st : List Value} {k : Fin 4} {v : UInt64} {l2 : Array Slot} (hd : decode c.code pc = .ok (.dstore_n k, 1)) (hl : storeLocals Ls k.val (.double v) = some l2) (hq : pc + 1 = q) (g : Go p e below Q (T.setTop (mkF m q l2 st))) : Go p e below Q (T.setTop (mkF m pc Ls (.double v :: st))) := by
  subst hq; exact Go.of (fun _ r => XS.dstoreN h hx rfl hd rfl hl r) g
theorem Go.fload (h : At T m c below) (hx : p.tables.exec = Jvm.exec) {pc q : Nat} {Ls : Array Slot} {st : List Value} {k : Nat} {v : UInt32} (hd : decode c.code pc = .ok (.fload k, 2)) (hl : Ls[k]? = some (.val (.float v))) (hq : pc + 2 = q) (g : Go p e below Q (T.setTop (mkF m q Ls (.float v :: st)))) : Go p e below Q (T.setTop (mkF m pc Ls st)) := by
  subst hq; exact Go.of (fun _ r => XS.fload h hx rfl hd hl r) g
theorem Go.floadN (h : At T m c below) (hx : p.tables.exec = Jvm.exec) {pc q : Nat} {Ls : Array Slot} {st : List Value} {k : Fin 4} {v : UInt32} (hd : decode c.code pc = .ok (.fload_n k, 1)) (hl : Ls[k.val]? = some (.val (.float v))) (hq : pc + 1 = q) (g : Go p e below Q (T.setTop (mkF m q Ls (.float v :: st)))) : Go p e below Q (T.setTop (mkF m pc Ls st)) := by
  subst hq; exact Go.of (fun _ r => XS.floadN h hx rfl hd hl r) g
theorem Go.fstore (h : At T m c below) (hx : p.tables.exec = Jvm.exec) {pc q : Nat} {Ls : Array Slot} {st : List Value} {k : Nat} {v : UInt32} {l2 : Array Slot} (hd : decode c.code pc = .ok (.fstore k, 2)) (hl : storeLocals Ls k (.float v) = some l2) (hq : pc + 2 = q) (g : Go p e below Q (T.setTop (mkF m q l2 st))) : Go p e below Q (T.setTop (mkF m pc Ls (.float v :: st))) := by
  subst hq; exact Go.of (fun _ r => XS.fstore h hx rfl hd rfl hl r) g
theorem Go.fstoreN (h : At T m c below) (hx : p.tables.exec = Jvm.exec) {pc q : Nat} {Ls : Array Slot} {st : List Value} {k : Fin 4} {v : UInt32} {l2 : Array Slot} (hd : decode c.code pc = .ok (.fstore_n k, 1)) (hl : storeLocals Ls k.val (.float v) = some l2) (hq : pc + 1 = q) (g : Go p e below Q (T.setTop (mkF m q l2 st))) : Go p e below Q (T.setTop (mkF m pc Ls (.float v :: st))) := by
  subst hq; exact Go.of (fun _ r => XS.fstoreN h hx rfl hd rfl hl r) g
theorem Go.aload (h : At T m c below) (hx : p.tables.exec = Jvm.exec) {pc q : Nat} {Ls : Array Slot} {st : List Value} {k : Nat} {v : Value} (hd : decode c.code pc = .ok (.aload k, 2)) (hl : Ls[k]? = some (.val v)) (hv : v.isRef = true) (hq : pc + 2 = q) (g : Go p e below Q (T.setTop (mkF m q Ls (v :: st)))) : Go p e below Q (T.setTop (mkF m pc Ls st)) := by
  subst hq; exact Go.of (fun _ r => XS.aload h hx rfl hd hl hv r) g
theorem Go.aloadN (h : At T m c below) (hx : p.tables.exec = Jvm.exec) {pc q : Nat} {Ls : Array Slot} {st : List Value} {k : Fin 4} {v : Value} (hd : decode c.code pc = .ok (.aload_n k, 1)) (hl : Ls[k.val]? = some (.val v)) (hv : v.isRef = true) (hq : pc + 1 = q) (g : Go p e below Q (T.setTop (mkF m q Ls (v :: st)))) : Go p e below Q (T.setTop (mkF m pc Ls st)) := by
  subst hq; exact Go.of (fun _ r => XS.aloadN h hx rfl hd hl hv r) g
theorem Go.astore (h : At T m c below) (hx : p.tables.exec = Jvm.exec) {pc q : Nat} {Ls : Array Slot} {st : List Value} {k : Nat} {v : Value} {l2 : Array Slot} (hd : decode c.code pc = .ok (.astore k, 2)) (hv : v.isRef = true) (hl : storeLocals Ls k v = some l2) (hq : pc + 2 = q) (g : Go p e below Q (T.setTop (mkF m q l2 st))) : Go p e below Q (T.setTop (mkF m pc Ls (v :: st))) := by
  subst hq; exact Go.of (fun _ r => XS.astore h hx rfl hd rfl hv hl r) g
theorem Go.astoreN (h : At T m c below) (hx : p.tables.exec = Jvm.exec) {pc q : Nat} {Ls : Array Slot} {st : List Value} {k : Fin 4} {v : Value} {l2 : Array Slot} (hd : decode c.code pc = .ok (.astore_n k, 1)) (hv : v.isRef = true) (hl : storeLocals Ls k.val v = some l2) (hq : pc + 1 = q) (g : Go p e below Q (T.setTop (mkF m q l2 st))) : Go p e below Q (T.setTop (mkF m pc Ls (v :: st))) := by
  subst hq; exact Go.of (fun _ r => XS.astoreN h hx rfl hd rfl hv hl r) g
theorem Go.iconst (h : At T m c below) (hx : p.tables.exec = Jvm.exec) {pc q : Nat} {Ls : Array Slot} {st : List Value} {i : Int} {v : Int32} (hd : decode c.code pc = .ok (.iconst i, 1)) (hv : Int32.ofInt i = v) (hq : pc + 1 = q) (g : Go p e below Q (T.setTop (mkF m q Ls (.int v :: st)))) : Go p e below Q (T.setTop (mkF m pc Ls st)) := by
  subst hq hv; exact Go.of (fun _ r => XS.iconst h hx rfl hd r) g
theorem Go.bipush (h : At T m c below) (hx : p.tables.exec = Jvm.exec) {pc q : Nat} {Ls : Array Slot} {st : List Value} {i : Int} {v : Int32} (hd : decode c.code pc = .ok (.bipush i, 2)) (hv : (Int8.ofInt i).toInt32 = v) (hq : pc + 2 = q) (g : Go p e below Q (T.setTop (mkF m q Ls (.int v :: st)))) : Go p e below Q (T.setTop (mkF m pc Ls st)) := by
  subst hq hv; exact Go.of (fun _ r => XS.bipush h hx rfl hd r) g
theorem Go.sipush (h : At T m c below) (hx : p.tables.exec = Jvm.exec) {pc q : Nat} {Ls : Array Slot} {st : List Value} {i : Int} {v : Int32} (hd : decode c.code pc = .ok (.sipush i, 3)) (hv : (Int16.ofInt i).toInt32 = v) (hq : pc + 3 = q) (g : Go p e below Q (T.setTop (mkF m q Ls (.int v :: st)))) : Go p e below Q (T.setTop (mkF m pc Ls st)) := by
  subst hq hv; exact Go.of (fun _ r => XS.sipush h hx rfl hd r) g
theorem Go.lconst (h : At T m c below) (hx : p.tables.exec = Jvm.exec) {pc q : Nat} {Ls : Array Slot} {st : List Value} {k : Fin 2} {v : Int64} (hd : decode c.code pc = .ok (.lconst k, 1)) (hv : Int64.ofNat k = v) (hq : pc + 1 = q) (g : Go p e below Q (T.setTop (mkF m q Ls (.long v :: st)))) : Go p e below Q (T.setTop (mkF m pc Ls st)) := by
  subst hq hv; exact Go.of (fun _ r => XS.lconst h hx rfl hd r) g
theorem Go.aconst (h : At T m c below) (hx : p.tables.exec = Jvm.exec) {pc q : Nat} {Ls : Array Slot} {st : List Value}  (hd : decode c.code pc = .ok (.aconst_null, 1)) (hq : pc + 1 = q) (g : Go p e below Q (T.setTop (mkF m q Ls (.null :: st)))) : Go p e below Q (T.setTop (mkF m pc Ls st)) := by
  subst hq; exact Go.of (fun _ r => XS.aconstNull h hx rfl hd r) g
theorem Go.dconst0 (h : At T m c below) (hx : p.tables.exec = Jvm.exec) {pc q : Nat} {Ls : Array Slot} {st : List Value} {v : UInt64} (hd : decode c.code pc = .ok (.dconst 0, 1)) (hv : FP.dconst0 = v) (hq : pc + 1 = q) (g : Go p e below Q (T.setTop (mkF m q Ls (.double v :: st)))) : Go p e below Q (T.setTop (mkF m pc Ls st)) := by
  subst hq; exact Go.of (fun _ r => XS.dconst0 h hx rfl hd hv r) g
theorem Go.dconst1 (h : At T m c below) (hx : p.tables.exec = Jvm.exec) {pc q : Nat} {Ls : Array Slot} {st : List Value} {v : UInt64} (hd : decode c.code pc = .ok (.dconst 1, 1)) (hv : FP.dconst1 = v) (hq : pc + 1 = q) (g : Go p e below Q (T.setTop (mkF m q Ls (.double v :: st)))) : Go p e below Q (T.setTop (mkF m pc Ls st)) := by
  subst hq; exact Go.of (fun _ r => XS.dconst1 h hx rfl hd hv r) g
theorem Go.fconst0 (h : At T m c below) (hx : p.tables.exec = Jvm.exec) {pc q : Nat} {Ls : Array Slot} {st : List Value} {v : UInt32} (hd : decode c.code pc = .ok (.fconst 0, 1)) (hv : FP.fconst0 = v) (hq : pc + 1 = q) (g : Go p e below Q (T.setTop (mkF m q Ls (.float v :: st)))) : Go p e below Q (T.setTop (mkF m pc Ls st)) := by
  subst hq; exact Go.of (fun _ r => XS.fconst0 h hx rfl hd hv r) g
theorem Go.fconst1 (h : At T m c below) (hx : p.tables.exec = Jvm.exec) {pc q : Nat} {Ls : Array Slot} {st : List Value} {v : UInt32} (hd : decode c.code pc = .ok (.fconst 1, 1)) (hv : FP.fconst1 = v) (hq : pc + 1 = q) (g : Go p e below Q (T.setTop (mkF m q Ls (.float v :: st)))) : Go p e below Q (T.setTop (mkF m pc Ls st)) := by
  subst hq; exact Go.of (fun _ r => XS.fconst1 h hx rfl hd hv r) g
theorem Go.iadd (h : At T m c below) (hx : p.tables.exec = Jvm.exec) {pc q : Nat} {Ls : Array Slot} {st : List Value} {x : Int32} {y : Int32} {v : Int32} (hd : decode c.code pc = .ok (.iadd, 1)) (hv : x + y = v) (hq : pc + 1 = q) (g : Go p e below Q (T.setTop (mkF m q Ls (.int v :: st)))) : Go p e below Q (T.setTop (mkF m pc Ls (.int y :: .int x :: st))) := by
  subst hq hv; exact Go.of (fun _ r => XS.iadd h hx rfl hd rfl r) g
theorem Go.isub (h : At T m c below) (hx : p.tables.exec = Jvm.exec) {pc q : Nat} {Ls : Array Slot} {st : List Value} {x : Int32} {y : Int32} {v : Int32} (hd : decode c.code pc = .ok (.isub, 1)) (hv : x - y = v) (hq : pc + 1 = q) (g : Go p e below Q (T.setTop (mkF m q Ls (.int v :: st)))) : Go p e below Q (T.setTop (mkF m pc Ls (.int y :: .int x :: st))) := by
  subst hq hv; exact Go.of (fun _ r => XS.isub h hx rfl hd rfl r) g
theorem Go.iand (h : At T m c below) (hx : p.tables.exec = Jvm.exec) {pc q : Nat} {Ls : Array Slot} {st : List Value} {x : Int32} {y : Int32} {v : Int32} (hd : decode c.code pc = .ok (.iand, 1)) (hv : x &&& y = v) (hq : pc + 1 = q) (g : Go p e below Q (T.setTop (mkF m q Ls (.int v :: st)))) : Go p e below Q (T.setTop (mkF m pc Ls (.int y :: .int x :: st))) := by
  subst hq hv; exact Go.of (fun _ r => XS.iand h hx rfl hd rfl r) g
theorem Go.imul (h : At T m c below) (hx : p.tables.exec = Jvm.exec) {pc q : Nat} {Ls : Array Slot} {st : List Value} {x : Int32} {y : Int32} {v : Int32} (hd : decode c.code pc = .ok (.imul, 1)) (hv : x * y = v) (hq : pc + 1 = q) (g : Go p e below Q (T.setTop (mkF m q Ls (.int v :: st)))) : Go p e below Q (T.setTop (mkF m pc Ls (.int y :: .int x :: st))) := by
  subst hq hv; exact Go.of (fun _ r => XS.imul h hx rfl hd rfl r) g
theorem Go.ixor (h : At T m c below) (hx : p.tables.exec = Jvm.exec) {pc q : Nat} {Ls : Array Slot} {st : List Value} {x : Int32} {y : Int32} {v : Int32} (hd : decode c.code pc = .ok (.ixor, 1)) (hv : x ^^^ y = v) (hq : pc + 1 = q) (g : Go p e below Q (T.setTop (mkF m q Ls (.int v :: st)))) : Go p e below Q (T.setTop (mkF m pc Ls (.int y :: .int x :: st))) := by
  subst hq hv; exact Go.of (fun _ r => XS.ixor h hx rfl hd rfl r) g
theorem Go.ior (h : At T m c below) (hx : p.tables.exec = Jvm.exec) {pc q : Nat} {Ls : Array Slot} {st : List Value} {x : Int32} {y : Int32} {v : Int32} (hd : decode c.code pc = .ok (.ior, 1)) (hv : x ||| y = v) (hq : pc + 1 = q) (g : Go p e below Q (T.setTop (mkF m q Ls (.int v :: st)))) : Go p e below Q (T.setTop (mkF m pc Ls (.int y :: .int x :: st))) := by
  subst hq hv; exact Go.of (fun _ r => XS.ior h hx rfl hd rfl r) g
theorem Go.ishl (h : At T m c below) (hx : p.tables.exec = Jvm.exec) {pc q : Nat} {Ls : Array Slot} {st : List Value} {x : Int32} {y : Int32} {v : Int32} (hd : decode c.code pc = .ok (.ishl, 1)) (hv : x <<< (y &&& 31) = v) (hq : pc + 1 = q) (g : Go p e below Q (T.setTop (mkF m q Ls (.int v :: st)))) : Go p e below Q (T.setTop (mkF m pc Ls (.int y :: .int x :: st))) := by
  subst hq hv; exact Go.of (fun _ r => XS.ishl h hx rfl hd rfl r) g
theorem Go.ishr (h : At T m c below) (hx : p.tables.exec = Jvm.exec) {pc q : Nat} {Ls : Array Slot} {st : List Value} {x : Int32} {y : Int32} {v : Int32} (hd : decode c.code pc = .ok (.ishr, 1)) (hv : x >>> (y &&& 31) = v) (hq : pc + 1 = q) (g : Go p e below Q (T.setTop (mkF m q Ls (.int v :: st)))) : Go p e below Q (T.setTop (mkF m pc Ls (.int y :: .int x :: st))) := by
  subst hq hv; exact Go.of (fun _ r => XS.ishr h hx rfl hd rfl r) g
theorem Go.iushr (h : At T m c below) (hx : p.tables.exec = Jvm.exec) {pc q : Nat} {Ls : Array Slot} {st : List Value} {x : Int32} {y : Int32} {v : Int32} (hd : decode c.code pc = .ok (.iushr, 1)) (hv : (x.toUInt32 >>> (y &&& 31).toUInt32).toInt32 = v) (hq : pc + 1 = q) (g : Go p e below Q (T.setTop (mkF m q Ls (.int v :: st)))) : Go p e below Q (T.setTop (mkF m pc Ls (.int y :: .int x :: st))) := by
  subst hq hv; exact Go.of (fun _ r => XS.iushr h hx rfl hd rfl r) g
theorem Go.idiv (h : At T m c below) (hx : p.tables.exec = Jvm.exec) {pc q : Nat} {Ls : Array Slot} {st : List Value} {x : Int32} {y : Int32} {v : Int32} (hd : decode c.code pc = .ok (.idiv, 1)) (hy : y ≠ 0) (hv : x / y = v) (hq : pc + 1 = q) (g : Go p e below Q (T.setTop (mkF m q Ls (.int v :: st)))) : Go p e below Q (T.setTop (mkF m pc Ls (.int y :: .int x :: st))) := by
  subst hq hv; exact Go.of (fun _ r => XS.idiv h hx rfl hd rfl hy r) g
theorem Go.irem (h : At T m c below) (hx : p.tables.exec = Jvm.exec) {pc q : Nat} {Ls : Array Slot} {st : List Value} {x : Int32} {y : Int32} {v : Int32} (hd : decode c.code pc = .ok (.irem, 1)) (hy : y ≠ 0) (hv : x - (x / y) * y = v) (hq : pc + 1 = q) (g : Go p e below Q (T.setTop (mkF m q Ls (.int v :: st)))) : Go p e below Q (T.setTop (mkF m pc Ls (.int y :: .int x :: st))) := by
  subst hq hv; exact Go.of (fun _ r => XS.irem h hx rfl hd rfl hy r) g
theorem Go.ladd (h : At T m c below) (hx : p.tables.exec = Jvm.exec) {pc q : Nat} {Ls : Array Slot} {st : List Value} {x : Int64} {y : Int64} {v : Int64} (hd : decode c.code pc = .ok (.ladd, 1)) (hv : x + y = v) (hq : pc + 1 = q) (g : Go p e below Q (T.setTop (mkF m q Ls (.long v :: st)))) : Go p e below Q (T.setTop (mkF m pc Ls (.long y :: .long x :: st))) := by
  subst hq hv; exact Go.of (fun _ r => XS.ladd h hx rfl hd rfl r) g
theorem Go.lsub (h : At T m c below) (hx : p.tables.exec = Jvm.exec) {pc q : Nat} {Ls : Array Slot} {st : List Value} {x : Int64} {y : Int64} {v : Int64} (hd : decode c.code pc = .ok (.lsub, 1)) (hv : x - y = v) (hq : pc + 1 = q) (g : Go p e below Q (T.setTop (mkF m q Ls (.long v :: st)))) : Go p e below Q (T.setTop (mkF m pc Ls (.long y :: .long x :: st))) := by
  subst hq hv; exact Go.of (fun _ r => XS.lsub h hx rfl hd rfl r) g
theorem Go.lmul (h : At T m c below) (hx : p.tables.exec = Jvm.exec) {pc q : Nat} {Ls : Array Slot} {st : List Value} {x : Int64} {y : Int64} {v : Int64} (hd : decode c.code pc = .ok (.lmul, 1)) (hv : x * y = v) (hq : pc + 1 = q) (g : Go p e below Q (T.setTop (mkF m q Ls (.long v :: st)))) : Go p e below Q (T.setTop (mkF m pc Ls (.long y :: .long x :: st))) := by
  subst hq hv; exact Go.of (fun _ r => XS.lmul h hx rfl hd rfl r) g
theorem Go.land (h : At T m c below) (hx : p.tables.exec = Jvm.exec) {pc q : Nat} {Ls : Array Slot} {st : List Value} {x : Int64} {y : Int64} {v : Int64} (hd : decode c.code pc = .ok (.land, 1)) (hv : x &&& y = v) (hq : pc + 1 = q) (g : Go p e below Q (T.setTop (mkF m q Ls (.long v :: st)))) : Go p e below Q (T.setTop (mkF m pc Ls (.long y :: .long x :: st))) := by
  subst hq hv; exact Go.of (fun _ r => XS.land h hx rfl hd rfl r) g
theorem Go.lor (h : At T m c below) (hx : p.tables.exec = Jvm.exec) {pc q : Nat} {Ls : Array Slot} {st : List Value} {x : Int64} {y : Int64} {v : Int64} (hd : decode c.code pc = .ok (.lor, 1)) (hv : x ||| y = v) (hq : pc + 1 = q) (g : Go p e below Q (T.setTop (mkF m q Ls (.long v :: st)))) : Go p e below Q (T.setTop (mkF m pc Ls (.long y :: .long x :: st))) := by
  subst hq hv; exact Go.of (fun _ r => XS.lor h hx rfl hd rfl r) g
theorem Go.lxor (h : At T m c below) (hx : p.tables.exec = Jvm.exec) {pc q : Nat} {Ls : Array Slot} {st : List Value} {x : Int64} {y : Int64} {v : Int64} (hd : decode c.code pc = .ok (.lxor, 1)) (hv : x ^^^ y = v) (hq : pc + 1 = q) (g : Go p e below Q (T.setTop (mkF m q Ls (.long v :: st)))) : Go p e below Q (T.setTop (mkF m pc Ls (.long y :: .long x :: st))) := by
  subst hq hv; exact Go.of (fun _ r => XS.lxor h hx rfl hd rfl r) g
theorem Go.lshl (h : At T m c below) (hx : p.tables.exec = Jvm.exec) {pc q : Nat} {Ls : Array Slot} {st : List Value} {x : Int64} {y : Int32} {v : Int64} (hd : decode c.code pc = .ok (.lshl, 1)) (hv : x <<< (y &&& 0x3f).toInt64 = v) (hq : pc + 1 = q) (g : Go p e below Q (T.setTop (mkF m q Ls (.long v :: st)))) : Go p e below Q (T.setTop (mkF m pc Ls (.int y :: .long x :: st))) := by
  subst hq hv; exact Go.of (fun _ r => XS.lshl h hx rfl hd rfl r) g
theorem Go.lshr (h : At T m c below) (hx : p.tables.exec = Jvm.exec) {pc q : Nat} {Ls : Array Slot} {st : List Value} {x : Int64} {y : Int32} {v : Int64} (hd : decode c.code pc = .ok (.lshr, 1)) (hv : x >>> (y &&& 0x3f).toInt64 = v) (hq : pc + 1 = q) (g : Go p e below Q (T.setTop (mkF m q Ls (.long v :: st)))) : Go p e below Q (T.setTop (mkF m pc Ls (.int y :: .long x :: st))) := by
  subst hq hv; exact Go.of (fun _ r => XS.lshr h hx rfl hd rfl r) g
theorem Go.lushr (h : At T m c below) (hx : p.tables.exec = Jvm.exec) {pc q : Nat} {Ls : Array Slot} {st : List Value} {x : Int64} {y : Int32} {v : Int64} (hd : decode c.code pc = .ok (.lushr, 1)) (hv : (x.toUInt64 >>> (y &&& 0x3f).toInt64.toUInt64).toInt64 = v) (hq : pc + 1 = q) (g : Go p e below Q (T.setTop (mkF m q Ls (.long v :: st)))) : Go p e below Q (T.setTop (mkF m pc Ls (.int y :: .long x :: st))) := by
  subst hq hv; exact Go.of (fun _ r => XS.lushr h hx rfl hd rfl r) g
theorem Go.ldiv (h : At T m c below) (hx : p.tables.exec = Jvm.exec) {pc q : Nat} {Ls : Array Slot} {st : List Value} {x : Int64} {y : Int64} {v : Int64} (hd : decode c.code pc = .ok (.ldiv, 1)) (hy : y ≠ 0) (hv : x / y = v) (hq : pc + 1 = q) (g : Go p e below Q (T.setTop (mkF m q Ls (.long v :: st)))) : Go p e below Q (T.setTop (mkF m pc Ls (.long y :: .long x :: st))) := by
  subst hq hv; exact Go.of (fun _ r => XS.ldiv h hx rfl hd rfl hy r) g
theorem Go.lrem (h : At T m c below) (hx : p.tables.exec = Jvm.exec) {pc q : Nat} {Ls : Array Slot} {st : List Value} {x : Int64} {y : Int64} {v : Int64} (hd : decode c.code pc = .ok (.lrem, 1)) (hy : y ≠ 0) (hv : x - (x / y) * y = v) (hq : pc + 1 = q) (g : Go p e below Q (T.setTop (mkF m q Ls (.long v :: st)))) : Go p e below Q (T.setTop (mkF m pc Ls (.long y :: .long x :: st))) := by
  subst hq hv; exact Go.of (fun _ r => XS.lrem h hx rfl hd rfl hy r) g
theorem Go.lcmp (h : At T m c below) (hx : p.tables.exec = Jvm.exec) {pc q : Nat} {Ls : Array Slot} {st : List Value} {x : Int64} {y : Int64} {v : Int32} (hd : decode c.code pc = .ok (.lcmp, 1)) (hv : lcmpW x y = v) (hq : pc + 1 = q) (g : Go p e below Q (T.setTop (mkF m q Ls (.int v :: st)))) : Go p e below Q (T.setTop (mkF m pc Ls (.long y :: .long x :: st))) := by
  subst hq hv; exact Go.of (fun _ r => XS.lcmp h hx rfl hd rfl r) g
theorem Go.ineg (h : At T m c below) (hx : p.tables.exec = Jvm.exec) {pc q : Nat} {Ls : Array Slot} {st : List Value} {x : Int32} {v : Int32} (hd : decode c.code pc = .ok (.ineg, 1)) (hv : -x = v) (hq : pc + 1 = q) (g : Go p e below Q (T.setTop (mkF m q Ls (.int v :: st)))) : Go p e below Q (T.setTop (mkF m pc Ls (.int x :: st))) := by
  subst hq hv; exact Go.of (fun _ r => XS.ineg h hx rfl hd rfl r) g
theorem Go.lneg (h : At T m c below) (hx : p.tables.exec = Jvm.exec) {pc q : Nat} {Ls : Array Slot} {st : List Value} {x : Int64} {v : Int64} (hd : decode c.code pc = .ok (.lneg, 1)) (hv : -x = v) (hq : pc + 1 = q) (g : Go p e below Q (T.setTop (mkF m q Ls (.long v :: st)))) : Go p e below Q (T.setTop (mkF m pc Ls (.long x :: st))) := by
  subst hq hv; exact Go.of (fun _ r => XS.lneg h hx rfl hd rfl r) g
theorem Go.i2l (h : At T m c below) (hx : p.tables.exec = Jvm.exec) {pc q : Nat} {Ls : Array Slot} {st : List Value} {x : Int32} {v : Int64} (hd : decode c.code pc = .ok (.i2l, 1)) (hv : x.toInt64 = v) (hq : pc + 1 = q) (g : Go p e below Q (T.setTop (mkF m q Ls (.long v :: st)))) : Go p e below Q (T.setTop (mkF m pc Ls (.int x :: st))) := by
  subst hq hv; exact Go.of (fun _ r => XS.i2l h hx rfl hd rfl r) g
theorem Go.l2i (h : At T m c below) (hx : p.tables.exec = Jvm.exec) {pc q : Nat} {Ls : Array Slot} {st : List Value} {x : Int64} {v : Int32} (hd : decode c.code pc = .ok (.l2i, 1)) (hv : x.toInt32 = v) (hq : pc + 1 = q) (g : Go p e below Q (T.setTop (mkF m q Ls (.int v :: st)))) : Go p e below Q (T.setTop (mkF m pc Ls (.long x :: st))) := by
  subst hq hv; exact Go.of (fun _ r => XS.l2i h hx rfl hd rfl r) g
theorem Go.i2d (h : At T m c below) (hx : p.tables.exec = Jvm.exec) {pc q : Nat} {Ls : Array Slot} {st : List Value} {x : Int32} {v : UInt64} (hd : decode c.code pc = .ok (.i2d, 1)) (hv : FP.i2d x = v) (hq : pc + 1 = q) (g : Go p e below Q (T.setTop (mkF m q Ls (.double v :: st)))) : Go p e below Q (T.setTop (mkF m pc Ls (.int x :: st))) := by
  subst hq; exact Go.of (fun _ r => XS.i2dS h hx rfl hd rfl hv r) g
theorem Go.l2d (h : At T m c below) (hx : p.tables.exec = Jvm.exec) {pc q : Nat} {Ls : Array Slot} {st : List Value} {x : Int64} {v : UInt64} (hd : decode c.code pc = .ok (.l2d, 1)) (hv : FP.l2d x = v) (hq : pc + 1 = q) (g : Go p e below Q (T.setTop (mkF m q Ls (.double v :: st)))) : Go p e below Q (T.setTop (mkF m pc Ls (.long x :: st))) := by
  subst hq; exact Go.of (fun _ r => XS.l2dS h hx rfl hd rfl hv r) g
theorem Go.d2i (h : At T m c below) (hx : p.tables.exec = Jvm.exec) {pc q : Nat} {Ls : Array Slot} {st : List Value} {x : UInt64} {v : Int32} (hd : decode c.code pc = .ok (.d2i, 1)) (hv : FP.d2i x = v) (hq : pc + 1 = q) (g : Go p e below Q (T.setTop (mkF m q Ls (.int v :: st)))) : Go p e below Q (T.setTop (mkF m pc Ls (.double x :: st))) := by
  subst hq; exact Go.of (fun _ r => XS.d2iS h hx rfl hd rfl hv r) g
theorem Go.d2l (h : At T m c below) (hx : p.tables.exec = Jvm.exec) {pc q : Nat} {Ls : Array Slot} {st : List Value} {x : UInt64} {v : Int64} (hd : decode c.code pc = .ok (.d2l, 1)) (hv : FP.d2l x = v) (hq : pc + 1 = q) (g : Go p e below Q (T.setTop (mkF m q Ls (.long v :: st)))) : Go p e below Q (T.setTop (mkF m pc Ls (.double x :: st))) := by
  subst hq; exact Go.of (fun _ r => XS.d2lS h hx rfl hd rfl hv r) g
theorem Go.dneg (h : At T m c below) (hx : p.tables.exec = Jvm.exec) {pc q : Nat} {Ls : Array Slot} {st : List Value} {x : UInt64} {v : UInt64} (hd : decode c.code pc = .ok (.dneg, 1)) (hv : FP.dneg x = v) (hq : pc + 1 = q) (g : Go p e below Q (T.setTop (mkF m q Ls (.double v :: st)))) : Go p e below Q (T.setTop (mkF m pc Ls (.double x :: st))) := by
  subst hq; exact Go.of (fun _ r => XS.dnegS h hx rfl hd rfl hv r) g
theorem Go.i2f (h : At T m c below) (hx : p.tables.exec = Jvm.exec) {pc q : Nat} {Ls : Array Slot} {st : List Value} {x : Int32} {v : UInt32} (hd : decode c.code pc = .ok (.i2f, 1)) (hv : FP.i2f x = v) (hq : pc + 1 = q) (g : Go p e below Q (T.setTop (mkF m q Ls (.float v :: st)))) : Go p e below Q (T.setTop (mkF m pc Ls (.int x :: st))) := by
  subst hq; exact Go.of (fun _ r => XS.i2fS h hx rfl hd rfl hv r) g
theorem Go.l2f (h : At T m c below) (hx : p.tables.exec = Jvm.exec) {pc q : Nat} {Ls : Array Slot} {st : List Value} {x : Int64} {v : UInt32} (hd : decode c.code pc = .ok (.l2f, 1)) (hv : FP.l2f x = v) (hq : pc + 1 = q) (g : Go p e below Q (T.setTop (mkF m q Ls (.float v :: st)))) : Go p e below Q (T.setTop (mkF m pc Ls (.long x :: st))) := by
  subst hq; exact Go.of (fun _ r => XS.l2fS h hx rfl hd rfl hv r) g
theorem Go.dadd (h : At T m c below) (hx : p.tables.exec = Jvm.exec) {pc q : Nat} {Ls : Array Slot} {st : List Value} {x y v : UInt64} (hd : decode c.code pc = .ok (.dadd, 1)) (hn : NoNaN64 (FP.dadd x y)) (hv : FP.dadd x y = v) (hq : pc + 1 = q) (g : Go p e below Q (T.setTop (mkF m q Ls (.double v :: st)))) : Go p e below Q (T.setTop (mkF m pc Ls (.double y :: .double x :: st))) := by
  subst hq; exact Go.of (fun _ r => XS.daddS h hx rfl hd rfl hn hv r) g
theorem Go.dsub (h : At T m c below) (hx : p.tables.exec = Jvm.exec) {pc q : Nat} {Ls : Array Slot} {st : List Value} {x y v : UInt64} (hd : decode c.code pc = .ok (.dsub, 1)) (hn : NoNaN64 (FP.dsub x y)) (hv : FP.dsub x y = v) (hq : pc + 1 = q) (g : Go p e below Q (T.setTop (mkF m q Ls (.double v :: st)))) : Go p e below Q (T.setTop (mkF m pc Ls (.double y :: .double x :: st))) := by
  subst hq; exact Go.of (fun _ r => XS.dsubS h hx rfl hd rfl hn hv r) g
theorem Go.dmul (h : At T m c below) (hx : p.tables.exec = Jvm.exec) {pc q : Nat} {Ls : Array Slot} {st : List Value} {x y v : UInt64} (hd : decode c.code pc = .ok (.dmul, 1)) (hn : NoNaN64 (FP.dmul x y)) (hv : FP.dmul x y = v) (hq : pc + 1 = q) (g : Go p e below Q (T.setTop (mkF m q Ls (.double v :: st)))) : Go p e below Q (T.setTop (mkF m pc Ls (.double y :: .double x :: st))) := by
  subst hq; exact Go.of (fun _ r => XS.dmulS h hx rfl hd rfl hn hv r) g
theorem Go.ddiv (h : At T m c below) (hx : p.tables.exec = Jvm.exec) {pc q : Nat} {Ls : Array Slot} {st : List Value} {x y v : UInt64} (hd : decode c.code pc = .ok (.ddiv, 1)) (hn : NoNaN64 (FP.ddiv x y)) (hv : FP.ddiv x y = v) (hq : pc + 1 = q) (g : Go p e below Q (T.setTop (mkF m q Ls (.double v :: st)))) : Go p e below Q (T.setTop (mkF m pc Ls (.double y :: .double x :: st))) := by
  subst hq; exact Go.of (fun _ r => XS.ddivS h hx rfl hd rfl hn hv r) g
theorem Go.dcmp (h : At T m c below) (hx : p.tables.exec = Jvm.exec) {pc q : Nat} {Ls : Array Slot} {st : List Value} {o : CmpOp} {x y : UInt64} {v : Int32} (hd : decode c.code pc = .ok (.dcmp o, 1)) (hv : cmpValue (FP.dcmp x y) o = v) (hq : pc + 1 = q) (g : Go p e below Q (T.setTop (mkF m q Ls (.int v :: st)))) : Go p e below Q (T.setTop (mkF m pc Ls (.double y :: .double x :: st))) := by
  subst hq; exact Go.of (fun _ r => XS.dcmpS h hx rfl hd rfl hv r) g
theorem Go.fcmp (h : At T m c below) (hx : p.tables.exec = Jvm.exec) {pc q : Nat} {Ls : Array Slot} {st : List Value} {o : CmpOp} {x y : UInt32} {v : Int32} (hd : decode c.code pc = .ok (.fcmp o, 1)) (hv : cmpValue (FP.fcmp x y) o = v) (hq : pc + 1 = q) (g : Go p e below Q (T.setTop (mkF m q Ls (.int v :: st)))) : Go p e below Q (T.setTop (mkF m pc Ls (.float y :: .float x :: st))) := by
  subst hq; exact Go.of (fun _ r => XS.fcmpS h hx rfl hd rfl hv r) g
theorem Go.dup (h : At T m c below) (hx : p.tables.exec = Jvm.exec) {pc q : Nat} {Ls : Array Slot} {st : List Value} {v : Value} (hd : decode c.code pc = .ok (.dup, 1)) (hc : v.category = 1) (hq : pc + 1 = q) (g : Go p e below Q (T.setTop (mkF m q Ls (v :: v :: st)))) : Go p e below Q (T.setTop (mkF m pc Ls (v :: st))) := by
  subst hq; exact Go.of (fun _ r => XS.dup h hx rfl hd rfl hc r) g
theorem Go.dup2 (h : At T m c below) (hx : p.tables.exec = Jvm.exec) {pc q : Nat} {Ls : Array Slot} {st : List Value} {v w : Value} (hd : decode c.code pc = .ok (.dup2, 1)) (hc : v.category = 1) (hc2 : w.category = 1) (hq : pc + 1 = q) (g : Go p e below Q (T.setTop (mkF m q Ls (v :: w :: v :: w :: st)))) : Go p e below Q (T.setTop (mkF m pc Ls (v :: w :: st))) := by
  subst hq; exact Go.of (fun _ r => Jvm.Free.XT.dup2 h hx rfl hd rfl hc hc2 r) g
theorem Go.pop (h : At T m c below) (hx : p.tables.exec = Jvm.exec) {pc q : Nat} {Ls : Array Slot} {st : List Value} {v : Value} (hd : decode c.code pc = .ok (.pop, 1)) (hc : v.category = 1) (hq : pc + 1 = q) (g : Go p e below Q (T.setTop (mkF m q Ls st))) : Go p e below Q (T.setTop (mkF m pc Ls (v :: st))) := by
  subst hq; exact Go.of (fun _ r => XS.pop h hx rfl hd rfl hc r) g
theorem step_dup2x1 {tb : Tables} [Ours tb] {target : State} {g : JFrame} (h : At T m c below) (hx : tb.exec = Jvm.exec) (hg : g.method = m) {x : Int64} {b : Value} {rest : List Value} (hd : decode c.code g.pc = .ok (.dup2_x1, 1)) (hs : g.stack = .long x :: b :: rest) (hb : b.category = 1)
    (hr : Steps tb e below (T.setTop { g with pc := g.pc + 1, stack := .long x :: b :: .long x :: rest }) target) : Steps tb e below (T.setTop g) target := by
  subst hg
  jvm_step h [h.top, hx, hd, hs, hb, Value.category]
  exact ⟨hb, hr⟩
theorem Go.dup2x1 (h : At T m c below) (hx : p.tables.exec = Jvm.exec) {pc q : Nat} {Ls : Array Slot} {st : List Value} {x : Int64} {b : Value} (hd : decode c.code pc = .ok (.dup2_x1, 1)) (hb : b.category = 1) (hq : pc + 1 = q) (g : Go p e below Q (T.setTop (mkF m q Ls (.long x :: b :: .long x :: st)))) : Go p e below Q (T.setTop (mkF m pc Ls (.long x :: b :: st))) := by
  subst hq; exact Go.of (fun _ r => step_dup2x1 h hx rfl hd rfl hb r) g
theorem Go.iinc (h : At T m c below) (hx : p.tables.exec = Jvm.exec) {pc q : Nat} {Ls : Array Slot} {st : List Value} {k : Nat} {cst : Int} {x v : Int32} {l2 : Array Slot} (hd : decode c.code pc = .ok (.iinc k cst, 3)) (hl : Ls[k]? = some (.val (.int x))) (hv : x + Int32.ofInt cst = v) (hl2 : storeLocals Ls k (.int v) = some l2) (hq : pc + 3 = q) (g : Go p e below Q (T.setTop (mkF m q l2 st))) : Go p e below Q (T.setTop (mkF m pc Ls st)) := by
  subst hq hv; exact Go.of (fun _ r => XS.iinc h hx rfl hd hl hl2 r) g
theorem Go.goto (h : At T m c below) (hx : p.tables.exec = Jvm.exec) {pc q : Nat} {Ls : Array Slot} {st : List Value} {o : Int} (hd : decode c.code pc = .ok (.goto o, 3)) (ho : 0 ≤ (pc : Int) + o) (hq : ((pc : Int) + o).toNat = q) (g : Go p e below Q (T.setTop (mkF m q Ls st))) : Go p e below Q (T.setTop (mkF m pc Ls st)) := Go.of (fun _ r => XS.goto h hx rfl rfl hd ho hq r) g
theorem Go.ifY (h : At T m c below) (hx : p.tables.exec = Jvm.exec) {pc q : Nat} {Ls : Array Slot} {st : List Value} {cd : ClassFile.Cond} {x : Int32} {o : Int} (hd : decode c.code pc = .ok (.ifCond cd o, 3)) (hc : ifCond.holds cd x = true) (ho : 0 ≤ (pc : Int) + o) (hq : ((pc : Int) + o).toNat = q) (g : Go p e below Q (T.setTop (mkF m q Ls st))) : Go p e below Q (T.setTop (mkF m pc Ls (.int x :: st))) := Go.of (fun _ r => XS.ifYes h hx rfl rfl hd rfl hc ho hq r) g
theorem Go.ifN (h : At T m c below) (hx : p.tables.exec = Jvm.exec) {pc q : Nat} {Ls : Array Slot} {st : List Value} {cd : ClassFile.Cond} {x : Int32} {o : Int} (hd : decode c.code pc = .ok (.ifCond cd o, 3)) (hc : ifCond.holds cd x = false) (hq : pc + 3 = q) (g : Go p e below Q (T.setTop (mkF m q Ls st))) : Go p e below Q (T.setTop (mkF m pc Ls (.int x :: st))) := by
  subst hq; exact Go.of (fun _ r => XS.ifNo h hx rfl hd rfl hc r) g
theorem Go.icmpY (h : At T m c below) (hx : p.tables.exec = Jvm.exec) {pc q : Nat} {Ls : Array Slot} {st : List Value} {cd : ClassFile.Cond} {x y : Int32} {o : Int} (hd : decode c.code pc = .ok (.if_icmp cd o, 3)) (hc : if_icmp.holds cd x y = true) (ho : 0 ≤ (pc : Int) + o) (hq : ((pc : Int) + o).toNat = q) (g : Go p e below Q (T.setTop (mkF m q Ls st))) : Go p e below Q (T.setTop (mkF m pc Ls (.int y :: .int x :: st))) := Go.of (fun _ r => XS.icmpYes h hx rfl rfl hd rfl hc ho hq r) g
theorem Go.icmpN (h : At T m c below) (hx : p.tables.exec = Jvm.exec) {pc q : Nat} {Ls : Array Slot} {st : List Value} {cd : ClassFile.Cond} {x y : Int32} {o : Int} (hd : decode c.code pc = .ok (.if_icmp cd o, 3)) (hc : if_icmp.holds cd x y = false) (hq : pc + 3 = q) (g : Go p e below Q (T.setTop (mkF m q Ls st))) : Go p e below Q (T.setTop (mkF m pc Ls (.int y :: .int x :: st))) := by
  subst hq; exact Go.of (fun _ r => XS.icmpNo h hx rfl hd rfl hc r) g
theorem Go.acmpY (h : At T m c below) (hx : p.tables.exec = Jvm.exec) {pc q : Nat} {Ls : Array Slot} {st : List Value} {cd : ClassFile.ACond} {a b : Addr} {o : Int} (hd : decode c.code pc = .ok (.if_acmp cd o, 3)) (hc : if_acmp.holds cd (some a) (some b) = true) (ho : 0 ≤ (pc : Int) + o) (hq : ((pc : Int) + o).toNat = q) (g : Go p e below Q (T.setTop (mkF m q Ls st))) : Go p e below Q (T.setTop (mkF m pc Ls (.ref b :: .ref a :: st))) := Go.of (fun _ r => XS.acmpYes h hx rfl rfl hd rfl hc ho hq r) g
theorem Go.acmpN (h : At T m c below) (hx : p.tables.exec = Jvm.exec) {pc q : Nat} {Ls : Array Slot} {st : List Value} {cd : ClassFile.ACond} {a b : Addr} {o : Int} (hd : decode c.code pc = .ok (.if_acmp cd o, 3)) (hc : if_acmp.holds cd (some a) (some b) = false) (hq : pc + 3 = q) (g : Go p e below Q (T.setTop (mkF m q Ls st))) : Go p e below Q (T.setTop (mkF m pc Ls (.ref b :: .ref a :: st))) := by
  subst hq; exact Go.of (fun _ r => XS.acmpNo h hx rfl hd rfl hc r) g
theorem Go.nullY (h : At T m c below) (hx : p.tables.exec = Jvm.exec) {pc q : Nat} {Ls : Array Slot} {st : List Value} {o : Int} (hd : decode c.code pc = .ok (.ifnull o, 3)) (ho : 0 ≤ (pc : Int) + o) (hq : ((pc : Int) + o).toNat = q) (g : Go p e below Q (T.setTop (mkF m q Ls st))) : Go p e below Q (T.setTop (mkF m pc Ls (.null :: st))) := Go.of (fun _ r => XS.ifnullYes h hx rfl rfl hd rfl ho hq r) g
theorem Go.nullN (h : At T m c below) (hx : p.tables.exec = Jvm.exec) {pc q : Nat} {Ls : Array Slot} {st : List Value} {o : Int} {b : Addr} (hd : decode c.code pc = .ok (.ifnull o, 3)) (hq : pc + 3 = q) (g : Go p e below Q (T.setTop (mkF m q Ls st))) : Go p e below Q (T.setTop (mkF m pc Ls (.ref b :: st))) := by
  subst hq; exact Go.of (fun _ r => XS.ifnullNo h hx rfl hd rfl r) g
theorem Go.nonnullY (h : At T m c below) (hx : p.tables.exec = Jvm.exec) {pc q : Nat} {Ls : Array Slot} {st : List Value} {o : Int} {b : Addr} (hd : decode c.code pc = .ok (.ifnonnull o, 3)) (ho : 0 ≤ (pc : Int) + o) (hq : ((pc : Int) + o).toNat = q) (g : Go p e below Q (T.setTop (mkF m q Ls st))) : Go p e below Q (T.setTop (mkF m pc Ls (.ref b :: st))) := Go.of (fun _ r => XS.ifnonnullYes h hx rfl rfl hd rfl ho hq r) g
theorem Go.nonnullN (h : At T m c below) (hx : p.tables.exec = Jvm.exec) {pc q : Nat} {Ls : Array Slot} {st : List Value} {o : Int} (hd : decode c.code pc = .ok (.ifnonnull o, 3)) (hq : pc + 3 = q) (g : Go p e below Q (T.setTop (mkF m q Ls st))) : Go p e below Q (T.setTop (mkF m pc Ls (.null :: st))) := by
  subst hq; exact Go.of (fun _ r => XS.ifnonnullNo h hx rfl hd rfl r) g
theorem Go.ldcI (X : Stand p l e R s m args below meth c T locs cells slots) (hx : p.tables.exec = Jvm.exec) {own : String} {index : Nat} {v : Int32} (hown : s.vm.findClass own = some m.cls) (w : (Jvm.Cond.constant own index v).before args s = true) {pc q : Nat} {Ls : Array Slot} {st : List Value} (hd : decode c.code pc = .ok (.ldc index, 2)) (hq : pc + 2 = q) (g : Go p e below Q (T.setTop (mkF m q Ls (.int v :: st)))) : Go p e below Q (T.setTop (mkF m pc Ls st)) := by
  subst hq; exact Go.of (fun _ r => X.ldcInt hx hown w (g := mkF m pc Ls st) rfl hd _ r) g
theorem Go.ldc2J (X : Stand p l e R s m args below meth c T locs cells slots) (hx : p.tables.exec = Jvm.exec) {own : String} {index : Nat} {v : Int64} (hown : s.vm.findClass own = some m.cls) (w : (Jvm.Cond.constantLong own index v).before args s = true) {pc q : Nat} {Ls : Array Slot} {st : List Value} (hd : decode c.code pc = .ok (.ldc2_w index, 3)) (hq : pc + 3 = q) (g : Go p e below Q (T.setTop (mkF m q Ls (.long v :: st)))) : Go p e below Q (T.setTop (mkF m pc Ls st)) := by
  subst hq; exact Go.of (fun _ r => X.ldc2Long hx hown w (g := mkF m pc Ls st) rfl hd _ r) g
theorem Go.ldc2D (X : Stand p l e R s m args below meth c T locs cells slots) (hx : p.tables.exec = Jvm.exec) {own : String} {index : Nat} {v : UInt64} (hown : s.vm.findClass own = some m.cls) (w : (Jvm.Cond.constantDouble own index v).before args s = true) {pc q : Nat} {Ls : Array Slot} {st : List Value} (hd : decode c.code pc = .ok (.ldc2_w index, 3)) (hq : pc + 3 = q) (g : Go p e below Q (T.setTop (mkF m q Ls (.double v :: st)))) : Go p e below Q (T.setTop (mkF m pc Ls st)) := by
  subst hq; exact Go.of (fun _ r => X.ldc2DoubleC hx hown w (g := mkF m pc Ls st) rfl hd _ r) g
theorem Go.ldcF (X : Stand p l e R s m args below meth c T locs cells slots) (hx : p.tables.exec = Jvm.exec) {own : String} {index : Nat} {v : UInt32} (hown : s.vm.findClass own = some m.cls) (w : (Jvm.Cond.constantFloat own index v).before args s = true) {pc q : Nat} {Ls : Array Slot} {st : List Value} (hd : decode c.code pc = .ok (.ldc index, 2)) (hq : pc + 2 = q) (g : Go p e below Q (T.setTop (mkF m q Ls (.float v :: st)))) : Go p e below Q (T.setTop (mkF m pc Ls st)) := by
  subst hq; exact Go.of (fun _ r => X.ldcFloatC hx hown w (g := mkF m pc Ls st) rfl hd _ r) g
end OwnGo

/-! own layer 3: steps that touch the heap, and calls by contract, in the same forward form -/
section OwnHeap
variable {p : Program} {l : Launch} {e : Env} {R : Room} {s : State} {m : MethodId} {args : Array Value} {below : List Frame} {meth : Method} {c : Code} {T : State} {locs : List Loc} {cells slots : Nat} {Q : Outcome → State → Prop} {Z : State} {a0 : Array Value} {h : Heap}
/-- a callee's contract at one call -/
abbrev Con (l : Launch) (Z : State) (y : MethodName) (bytes : ByteArray) (maxL : Nat) (ret : Option FieldType) (rm : Room) (as' : Array Value) (h : Heap) (Qv : Option Value → Heap → List Loc → Prop) : Prop :=
  MetFree l y (head1 [Jvm.Cond.code y bytes maxL ret] rm) (fun a U => a = as' ∧ Z.Warmed39 U.vm ∧ U.heap = h) (fun _ _ _ _ _ => True) (fun _ U o U' => ∃ v L, o = .returned v ∧ Qv v U'.heap L ∧ FrameEnd U o U' L rm.cells rm.slots)
theorem Go.new (X : Stand p l e R s m args below meth c T locs cells slots) (hx : p.tables.exec = Jvm.exec) (hZ : Z.Warmed39 s.vm) {own C : String} {index n : Nat} (hown : s.vm.findClass own = some m.cls) (w : (Jvm.Cond.classLink own index C).before a0 Z = true) (wi : (Jvm.Cond.instantiable C n).before a0 Z = true) (wz : (Jvm.Cond.initialized C).before a0 Z = true) (eT : T.heap = h)
    {pc q : Nat} {Ls : Array Slot} {st : List Value} (hd : decode c.code pc = .ok (.new index, 3)) (hc : cells + 1 ≤ R.cells) (hl : slots + n ≤ R.slots) (hq : pc + 3 = q)
    (k : ∀ (T' : State) (h' : Heap) (a : Addr), a = h.size → Stand p l e R s m args below meth c T' locs (cells + 1) (slots + n) → T'.heap = h' → Ext h h' → Exa Z h' a C → (∀ {O nm d : String} {ty : FieldType}, Laid Z a0 C O nm d → parseFieldDescriptor d = some ty → Fld Z h' a O nm d (defaultValue ty)) →
      Go p e below Q (T'.setTop (mkF m q Ls (.ref a :: st)))) : Go p e below Q (T.setTop (mkF m pc Ls st)) := by
  subst hq
  obtain ⟨T', h', X', e', E', A', D', -, st'⟩ := newO X hx hZ hown w wi wz eT (g := mkF m pc Ls st) rfl hd hc hl
  exact Go.of st' (k T' h' _ rfl X' e' E' A' D')
theorem Go.getf (X : Stand p l e R s m args below meth c T locs cells slots) (hx : p.tables.exec = Jvm.exec) (hZ : Z.Warmed39 s.vm) {own O n d : String} {index : Nat} (hown : s.vm.findClass own = some m.cls) (w : (Jvm.Cond.fieldLink own index O n d).before a0 Z = true) (eT : T.heap = h) {a : Addr} {v : Value} (F : Fld Z h a O n d v)
    {pc q : Nat} {Ls : Array Slot} {st : List Value} (hd : decode c.code pc = .ok (.getfield index, 3)) (hq : pc + 3 = q)
    (k : ∀ T' : State, Stand p l e R s m args below meth c T' locs cells slots → T'.heap = h → Go p e below Q (T'.setTop (mkF m q Ls (v :: st)))) : Go p e below Q (T.setTop (mkF m pc Ls (.ref a :: st))) := by
  subst hq
  obtain ⟨T', X', e', st'⟩ := getF X hx hZ hown (host := "") (Or.inl w) Via.refl eT F (g := mkF m pc Ls (.ref a :: st)) rfl rfl hd
  exact Go.of st' (k T' X' e')
theorem Go.gets (X : Stand p l e R s m args below meth c T locs cells slots) (hx : p.tables.exec = Jvm.exec) (hZ : Z.Warmed39 s.vm) {own O n d : String} {index : Nat} (hown : s.vm.findClass own = some m.cls) (w : (Jvm.Cond.fieldLink own index O n d).before a0 Z = true) (eT : T.heap = h) {v : Value} (F : Sta Z h O n d v)
    {pc q : Nat} {Ls : Array Slot} {st : List Value} (hd : decode c.code pc = .ok (.getstatic index, 3)) (hq : pc + 3 = q)
    (k : ∀ T' : State, Stand p l e R s m args below meth c T' locs cells slots → T'.heap = h → Go p e below Q (T'.setTop (mkF m q Ls (v :: st)))) : Go p e below Q (T.setTop (mkF m pc Ls st)) := by
  subst hq
  obtain ⟨T', X', e', st'⟩ := getS X hx hZ hown (host := "") w Via.refl eT F (g := mkF m pc Ls st) rfl hd
  exact Go.of st' (k T' X' e')
theorem Go.putf (X : Stand p l e R s m args below meth c T locs cells slots) (hx : p.tables.exec = Jvm.exec) (hZ : Z.Warmed39 s.vm) {own O n d C : String} {index kk : Nat} {ty : FieldType} (hown : s.vm.findClass own = some m.cls) (w : (Jvm.Cond.fieldLink own index O n d).before a0 Z = true) (eT : T.heap = h) {a : Addr} {v old : Value} (F : Fld Z h a O n d old) (E : Exa Z h a C)
    (L : (Jvm.Cond.lays C O n d).before a0 Z = true ∨ ((Jvm.Cond.laysFinal C O n d).before a0 Z = true ∧ own = O ∧ meth.name = "<init>")) (wi : (Jvm.Cond.instantiable C kk).before a0 Z = true) (hty : parseFieldDescriptor d = some ty) (hn : narrow ty v = v) (hf : fits ty v = true)
    {pc q : Nat} {Ls : Array Slot} {st : List Value} (hd : decode c.code pc = .ok (.putfield index, 3)) (hq : pc + 3 = q)
    (k : ∀ (T' : State) (h' : Heap), Stand p l e R s m args below meth c T' (locs ++ [⟨a, Jvm.RoadKit.slotOf Z O n d⟩]) cells slots → T'.heap = h' → Wr h h' a (Jvm.RoadKit.slotOf Z O n d) v → Go p e below Q (T'.setTop (mkF m q Ls st))) : Go p e below Q (T.setTop (mkF m pc Ls (v :: .ref a :: st))) := by
  subst hq
  obtain ⟨T', h', X', e', W', st'⟩ := putF X hx hZ hown (host := "") (Or.inl w) Via.refl eT F E L wi hty hn hf (g := mkF m pc Ls (v :: .ref a :: st)) rfl rfl hd
  exact Go.of st' (k T' h' X' e' W')
theorem Go.init (X : Stand p l e R s m args below meth c T locs cells slots) (hx : p.tables.exec = Jvm.exec) (hZ : Z.Warmed39 s.vm) {own : String} {index : Nat} (hown : s.vm.findClass own = some m.cls) (w1 : (Jvm.Cond.methodLink own index Lib.objectInit).before a0 Z = true) (w2 : (Jvm.Cond.instanceMethod Lib.objectInit).before a0 Z = true) (w3 : (Jvm.Cond.code Lib.objectInit ⟨#[0xb1]⟩ 1 none).before a0 Z = true) (eT : T.heap = h)
    {pc q : Nat} {Ls : Array Slot} {st : List Value} {a : Addr} {W : Nat} (hd : decode c.code pc = .ok (.invokespecial index, 3)) (hsz : Ls.size = c.maxLocals) (hf : 1 ≤ R.frames) (hW : (st.map fun v => v.category).sum ≤ W) (hl : W + 12 ≤ R.locals) (hq : pc + 3 = q)
    (k : ∀ T' : State, Stand p l e R s m args below meth c T' locs cells slots → T'.heap = h → Go p e below Q (T'.setTop (mkF m q Ls st))) : Go p e below Q (T.setTop (mkF m pc Ls (.ref a :: st))) := by
  subst hq
  obtain ⟨T', X', e', st'⟩ := initO X hx hZ hown w1 w2 w3 eT (g := mkF m pc Ls (.ref a :: st)) rfl hsz rfl hd hf (W := W) (by show 2 * 0 + _ ≤ _; omega) hl
  exact Go.of st' (k T' X' e')
theorem Go.special (X : Stand p l e R s m args below meth c T locs cells slots) (hx : p.tables.exec = Jvm.exec) (hZ : Z.Warmed39 s.vm) {own : String} {index : Nat} {y : MethodName} (hy1 : y.name = "<init>") (hown : s.vm.findClass own = some m.cls) (w1 : (Jvm.Cond.methodLink own index y).before a0 Z = true) (w2 : (Jvm.Cond.instanceMethod y).before a0 Z = true)
    {bytes : ByteArray} {maxL : Nat} (w3 : (Jvm.Cond.code y bytes maxL none).before a0 Z = true) (wz : (Jvm.Cond.initialized y.cls).before a0 Z = true) (hy : y.cls ≠ "java/lang/invoke/MethodHandle" ∧ y.cls ≠ "java/lang/invoke/VarHandle")
    {rm : Room} {as' : Array Value} {Qv : Option Value → Heap → List Loc → Prop} (hM : Con l Z y bytes maxL none rm as' h Qv) (eT : T.heap = h) {pc q : Nat} {Ls : Array Slot} {st : List Value} {a : Addr} {argsL rest : List Value} {W : Nat} (hd : decode c.code pc = .ok (.invokespecial index, 3))
    (hst : st = argsL.reverse ++ .ref a :: rest) (has : as' = (.ref a :: argsL).toArray) (hlen : ∀ sig, parseMethodDescriptor y.desc = some sig → argsL.length = sig.parameters.length) (hsz : Ls.size = c.maxLocals) (hW : (rest.map fun v => v.category).sum ≤ W)
    (hf : rm.frames + 1 ≤ R.frames) (hl : W + (maxL + 11) + rm.locals ≤ R.locals) (hc : cells + rm.cells ≤ R.cells) (hs : slots + rm.slots ≤ R.slots) (hq : pc + 3 = q)
    (k : ∀ (T' : State) (L : List Loc) (v : Option Value), Stand p l e R s m args below meth c T' (locs ++ L) (cells + rm.cells) (slots + rm.slots) → Qv v T'.heap L → Go p e below Q (T'.setTop (mkF m q Ls (v.toList ++ rest)))) : Go p e below Q (T.setTop (mkF m pc Ls st)) := by
  subst hq hst has
  obtain ⟨v, vm₁, ⟨T', L', k', n'⟩, -, X', ⟨Lc, hQ, l1, y1, z1⟩, st'⟩ := X.specialBack hx (y := y) hy1 hown (mvT hZ w1) (mvT hZ w2) (mvT hZ w3) hy (backOf (W := W) hM hZ w3 wz hf hl) (g := mkF m pc Ls (argsL.reverse ++ .ref a :: rest)) rfl hsz (Steps.refl _) (a := a) (argsL := argsL) (rest := rest) hlen rfl (by show 2 * 0 + _ ≤ _; omega) hd (fun _ _ => ⟨rfl, eT, hc, hs⟩)
  dsimp only [Pt.U, Pt.locs, Pt.cells, Pt.slots] at X' l1 y1 z1 st' hQ
  subst l1 y1 z1
  exact Go.tr st' (k T' Lc v X' hQ)
theorem Go.virtual (X : Stand p l e R s m args below meth c T locs cells slots) (hx : p.tables.exec = Jvm.exec) (hZ : Z.Warmed39 s.vm) {own C : String} {index : Nat} {y : MethodName} (hown : s.vm.findClass own = some m.cls) (w1 : (Jvm.Cond.methodLink own index y).before a0 Z = true) (w2 : (Jvm.Cond.declares y).before a0 Z = true) (w3 : (Jvm.Cond.selects C y y).before a0 Z = true) (w4 : (Jvm.Cond.instanceMethod y).before a0 Z = true)
    {bytes : ByteArray} {maxL : Nat} {ret : Option FieldType} (w5 : (Jvm.Cond.code y bytes maxL ret).before a0 Z = true) (wz : (Jvm.Cond.initialized y.cls).before a0 Z = true) (hy : y.cls ≠ "java/lang/invoke/MethodHandle" ∧ y.cls ≠ "java/lang/invoke/VarHandle")
    {rm : Room} {as' : Array Value} {Qv : Option Value → Heap → List Loc → Prop} (hM : Con l Z y bytes maxL ret rm as' h Qv) (eT : T.heap = h) {a : Addr} (E : Exa Z h a C) {pc q : Nat} {Ls : Array Slot} {st : List Value} {argsL rest : List Value} {W : Nat} (hd : decode c.code pc = .ok (.invokevirtual index, 3))
    (hst : st = argsL.reverse ++ .ref a :: rest) (has : as' = (.ref a :: argsL).toArray) (hlen : ∀ sig, parseMethodDescriptor y.desc = some sig → argsL.length = sig.parameters.length) (hsz : Ls.size = c.maxLocals) (hW : (rest.map fun v => v.category).sum ≤ W)
    (hf : rm.frames + 1 ≤ R.frames) (hl : W + (maxL + 11) + rm.locals ≤ R.locals) (hc : cells + rm.cells ≤ R.cells) (hs : slots + rm.slots ≤ R.slots) (hq : pc + 3 = q)
    (k : ∀ (T' : State) (L : List Loc) (v : Option Value), Stand p l e R s m args below meth c T' (locs ++ L) (cells + rm.cells) (slots + rm.slots) → Qv v T'.heap L → Go p e below Q (T'.setTop (mkF m q Ls (v.toList ++ rest)))) : Go p e below Q (T.setTop (mkF m pc Ls st)) := by
  subst hq hst has
  obtain ⟨cq, kq, qa, -, qc⟩ := isOf hZ eT E
  obtain ⟨v, vm₁, ⟨T', L', k', n'⟩, -, X', ⟨Lc, hQ, l1, y1, z1⟩, st'⟩ := X.virtualBack hx (y := y) (z := y) hown (mvT hZ w1) (mvT hZ w2) (notFace_of_selects (args := #[]) (mvT hZ w3)) (mvT hZ w3) (mvT hZ w4) hy (backOf (W := W) hM hZ w5 wz hf hl) qa qc (g := mkF m pc Ls (argsL.reverse ++ .ref a :: rest)) rfl hsz (Steps.refl _) (argsL := argsL) (rest := rest) hlen rfl (by show 2 * 0 + _ ≤ _; omega) hd (fun _ _ => ⟨rfl, eT, hc, hs⟩)
  dsimp only [Pt.U, Pt.locs, Pt.cells, Pt.slots] at X' l1 y1 z1 st' hQ
  subst l1 y1 z1
  exact Go.tr st' (k T' Lc v X' hQ)
theorem Go.static (X : Stand p l e R s m args below meth c T locs cells slots) (hx : p.tables.exec = Jvm.exec) (hZ : Z.Warmed39 s.vm) {own : String} {index : Nat} {y : MethodName} (hown : s.vm.findClass own = some m.cls) (w1 : (Jvm.Cond.methodLink own index y).before a0 Z = true) (w2 : (Jvm.Cond.static y).before a0 Z = true)
    {bytes : ByteArray} {maxL : Nat} {ret : Option FieldType} (w3 : (Jvm.Cond.code y bytes maxL ret).before a0 Z = true) (wz : (Jvm.Cond.initialized y.cls).before a0 Z = true) (hy : y.cls ≠ "java/lang/invoke/MethodHandle" ∧ y.cls ≠ "java/lang/invoke/VarHandle")
    {rm : Room} {as' : Array Value} {Qv : Option Value → Heap → List Loc → Prop} (hM : Con l Z y bytes maxL ret rm as' h Qv) (eT : T.heap = h) {pc q : Nat} {Ls : Array Slot} {st : List Value} {argsL rest : List Value} {W : Nat} (hd : decode c.code pc = .ok (.invokestatic index, 3))
    (hst : st = argsL.reverse ++ rest) (has : as' = argsL.toArray) (hlen : ∀ sig, parseMethodDescriptor y.desc = some sig → argsL.length = sig.parameters.length) (hsz : Ls.size = c.maxLocals) (hW : (rest.map fun v => v.category).sum ≤ W)
    (hf : rm.frames + 1 ≤ R.frames) (hl : W + (maxL + 11) + rm.locals ≤ R.locals) (hc : cells + rm.cells ≤ R.cells) (hs : slots + rm.slots ≤ R.slots) (hq : pc + 3 = q)
    (k : ∀ (T' : State) (L : List Loc) (v : Option Value), Stand p l e R s m args below meth c T' (locs ++ L) (cells + rm.cells) (slots + rm.slots) → Qv v T'.heap L → Go p e below Q (T'.setTop (mkF m q Ls (v.toList ++ rest)))) : Go p e below Q (T.setTop (mkF m pc Ls st)) := by
  subst hq hst has
  obtain ⟨v, vm₁, ⟨T', L', k', n'⟩, -, X', ⟨Lc, hQ, l1, y1, z1⟩, st'⟩ := Jvm.LawKit.callS X hx (y := y) hown (mvT hZ w1) (mvT hZ w2) (mvT hZ wz) (mvT hZ w3) hy (backOf (W := W) hM hZ w3 wz hf hl) (g := mkF m pc Ls (argsL.reverse ++ rest)) rfl hsz (argsL := argsL) (rest := rest) hlen rfl (by show 2 * 0 + _ ≤ _; omega) hd (fun _ _ => ⟨rfl, eT, hc, hs⟩)
  dsimp only [Pt.U, Pt.locs, Pt.cells, Pt.slots] at X' l1 y1 z1 st' hQ
  subst l1 y1 z1
  exact Go.of st' (k T' Lc v X' hQ)
/-- a static call that a payer of the library answers, and that leaves all as it was -/
theorem Go.nat (X : Stand p l e R s m args below meth c T locs cells slots) (hx : p.tables.exec = Jvm.exec) (hZ : Z.Warmed39 s.vm) {own : String} {index : Nat} {y : MethodName} (hown : s.vm.findClass own = some m.cls) (w1 : (Jvm.Cond.methodLink own index y).before a0 Z = true) (w2 : (Jvm.Cond.static y).before a0 Z = true) (w3 : (Jvm.Cond.initialized y.cls).before a0 Z = true)
    {by0 : ByteArray} {ml : Nat} {rt : Option FieldType} (w4 : (Jvm.Cond.code y by0 ml rt).before a0 Z = true) (hy : y.cls ≠ "java/lang/invoke/MethodHandle" ∧ y.cls ≠ "java/lang/invoke/VarHandle") (eT : T.heap = h) {W : Nat} {F : Array Value → Prop} {val : Value}
    (hK : (Jvm.Cond.code y by0 ml rt).before args s = true → Back l R p e below s args y 3 W (fun A a' => A.cells ≤ R.cells ∧ A.slots ≤ R.slots ∧ F a') (fun A _ v B => v = some val ∧ B = A))
    {pc q : Nat} {Ls : Array Slot} {st : List Value} {argsL rest : List Value} (hd : decode c.code pc = .ok (.invokestatic index, 3)) (hst : st = argsL.reverse ++ rest) (hlen : ∀ sig, parseMethodDescriptor y.desc = some sig → argsL.length = sig.parameters.length) (hsz : Ls.size = c.maxLocals) (hW : (rest.map fun v => v.category).sum ≤ W)
    (hc : cells ≤ R.cells) (hs : slots ≤ R.slots) (hF : F argsL.toArray) (hq : pc + 3 = q)
    (k : ∀ T' : State, Stand p l e R s m args below meth c T' locs cells slots → T'.heap = h → Go p e below Q (T'.setTop (mkF m q Ls (val :: rest)))) : Go p e below Q (T.setTop (mkF m pc Ls st)) := by
  subst hq hst
  obtain ⟨T', X', e', st'⟩ := natS X hx hZ hown w1 w2 w3 w4 hy eT hK (g := mkF m pc Ls (argsL.reverse ++ rest)) rfl hsz hlen rfl (by show 2 * 0 + _ ≤ _; omega) hd hc hs hF rfl
  exact Go.of st' (k T' X' e')
/-! words of the sheet by their place -/
theorem word {ts : List Jvm.Cond} (hw : ∀ d ∈ ts, d.before a0 Z = true) {d : Jvm.Cond} (i : Nat) (hi : ts[i]? = some d) : d.before a0 Z = true := hw _ (List.mem_of_getElem? hi)
end OwnHeap

theorem pd0 : parseMethodDescriptor "(JI)J" = some ⟨[.long, .int], some .long⟩ := by decide +kernel
theorem pd1 : parseMethodDescriptor "(DDD)D" = some ⟨[.double, .double, .double], some .double⟩ := by decide +kernel
/-! the exact error of a sum (whole numbers times a power of two) -/
section OwnTwo
open Jvm.FP Jvm.FP.Core Jvm.Free.Fl
theorem P2_one : P2 1 = 2 := rfl
theorem P2_zero : P2 0 = 1 := rfl
theorem rep_dec {V : Int} (h : Rep V) : ∃ (c : Int) (j : Nat), V = c * P2 j ∧ c.natAbs < 2 ^ 53 ∧ j ≤ 2045 := by
  obtain ⟨x, ⟨s, c, q, hv⟩, rfl⟩ := h
  have f := val64_fits x
  rw [hv] at f
  obtain ⟨f1, f2, f3, -⟩ := f
  rw [qmin_b64] at f2
  rw [own_qmax] at f3
  refine ⟨signed s c, (q - b64.qmin).toNat, ?_, ?_, ?_⟩
  · unfold Zv
    rw [hv]
    show signed s (inUnits c q b64.qmin) = _
    unfold inUnits P2
    rw [signed_mul]
  · rw [natAbs_signed]; exact f1
  · rw [qmin_b64]; omega
/-- a whole number of at most 53 digits and trailing noughts -/
def IR (n : Int) : Prop := ∃ (c : Int) (j : Nat), n = c * P2 j ∧ c.natAbs ≤ 2 ^ 53
theorem ir_small {n : Int} (h : n.natAbs ≤ 2 ^ 53) : IR n := ⟨n, 0, by rw [P2_zero, Int.mul_one], h⟩
theorem ir_neg {n : Int} (h : IR n) : IR (-n) := by
  obtain ⟨c, j, rfl, hc⟩ := h
  exact ⟨-c, j, by rw [Int.neg_mul], by rw [Int.natAbs_neg]; exact hc⟩
theorem ir_two {n : Int} (h : IR n) : IR (2 * n) := by
  obtain ⟨c, j, rfl, hc⟩ := h
  refine ⟨c, j + 1, ?_, hc⟩
  rw [P2_add, P2_one, ← Int.mul_assoc, Int.mul_comm 2, Int.mul_assoc, Int.mul_comm 2]
theorem ir_half {n : Int} (h : IR n) : n.natAbs ≤ 2 ^ 53 ∨ ∃ k, n = 2 * k ∧ IR k := by
  obtain ⟨c, j, rfl, hc⟩ := h
  cases j with
  | zero => left; rw [P2_zero, Int.mul_one]; exact hc
  | succ j =>
    right
    refine ⟨c * P2 j, ?_, c, j, rfl, hc⟩
    rw [P2_add, P2_one, ← Int.mul_assoc, Int.mul_comm 2]
theorem own_le_of {a b P : Int} (hP : 0 < P) (h : a * P ≤ b * P) : a ≤ b := Int.le_of_mul_le_mul_right h hP
theorem ir_core {c d : Int} {j t : Nat} (hc : c.natAbs ≤ 2 ^ 53) (h1 : 0 ≤ c * P2 j) (h2 : 0 ≤ d * P2 (j + t)) (h3 : c * P2 j ≤ 2 * (d * P2 (j + t))) (h4 : d * P2 (j + t) ≤ 2 * (c * P2 j)) : IR (c * P2 j - d * P2 (j + t)) := by
  have hp := P2_pos j
  have e : d * P2 (j + t) = d * P2 t * P2 j := by rw [P2_add]; ((try generalize P2 1074 = U1); (try generalize P2 1073 = U2); (try generalize P2 1072 = U3); (try generalize P2 (1074 - e) = U4); (try generalize P2 e = U5); (try generalize P2 1021 = U6); (try generalize P2 53 = U7); ac_rfl)
  rw [e] at h2 h3 h4 ⊢
  generalize d * P2 t = y at *
  have g1 : 0 ≤ c := own_le_of hp (by rw [Int.zero_mul]; exact h1)
  have g2 : 0 ≤ y := own_le_of hp (by rw [Int.zero_mul]; exact h2)
  have g3 : c ≤ 2 * y := own_le_of hp (by rw [Int.mul_assoc]; exact h3)
  have g4 : y ≤ 2 * c := own_le_of hp (by rw [Int.mul_assoc]; exact h4)
  exact ⟨c - y, j, by rw [Int.sub_mul], by omega⟩
/-- the difference of two numbers within a factor of two of each other -/
theorem ir_st {x y : Int} (hx : IR x) (hy : IR y) (h1 : 0 ≤ x) (h2 : 0 ≤ y) (h3 : x ≤ 2 * y) (h4 : y ≤ 2 * x) : IR (x - y) := by
  obtain ⟨c, j, rfl, hc⟩ := hx
  obtain ⟨d, i, rfl, hd⟩ := hy
  rcases Nat.le_total j i with h | h
  · obtain ⟨t, rfl⟩ := Nat.exists_eq_add_of_le h
    exact ir_core hc h1 h2 h3 h4
  · obtain ⟨t, rfl⟩ := Nat.exists_eq_add_of_le h
    have := ir_neg (ir_core hd h2 h1 h4 h3)
    rw [Int.neg_sub] at this
    exact this
/-- r is n rounded (as far as order tells) -/
def RND (n r : Int) : Prop := IR r ∧ ∀ v, IR v → v.natAbs ≤ 2 ^ 70 → (n ≤ v → r ≤ v) ∧ (v ≤ n → v ≤ r)
theorem rnd_eq {n r : Int} (h : RND n r) (hn : IR n) (hb : n.natAbs ≤ 2 ^ 70) : r = n := by
  obtain ⟨h1, h2⟩ := h.2 n hn hb
  exact Int.le_antisymm (h1 (Int.le_refl _)) (h2 (Int.le_refl _))
theorem rnd_neg {n r : Int} (h : RND n r) : RND (-n) (-r) := by
  refine ⟨ir_neg h.1, fun v hv hb => ?_⟩
  obtain ⟨h1, h2⟩ := h.2 (-v) (ir_neg hv) (by rw [Int.natAbs_neg]; exact hb)
  exact ⟨fun q => by have := h2 (by omega); omega, fun q => by have := h1 (by omega); omega⟩
theorem rnd_le {n r v : Int} (h : RND n r) (hv : IR v) (hb : v.natAbs ≤ 2 ^ 70) (q : n ≤ v) : r ≤ v := (h.2 v hv hb).1 q
theorem rnd_ge {n r v : Int} (h : RND n r) (hv : IR v) (hb : v.natAbs ≤ 2 ^ 70) (q : v ≤ n) : v ≤ r := (h.2 v hv hb).2 q
theorem rnd_close {n r : Int} (h : RND n r) (hn : n.natAbs ≤ 2 ^ 62) : (r - n).natAbs ≤ 1024 := by
  have p10 : P2 10 = 1024 := rfl
  have b1 : IR (n / 1024 * 1024) := ⟨n / 1024, 10, by rw [p10], by omega⟩
  have b2 : IR ((n / 1024 + 1) * 1024) := ⟨n / 1024 + 1, 10, by rw [p10], by omega⟩
  have g1 := rnd_ge h b1 (by omega) (by omega)
  have g2 := rnd_le h b2 (by omega) (by omega)
  omega
/-- the greater one is positive: the second difference of the two-sum is exact -/
theorem two_pos {A B R bv : Int} (hA : IR A) (hB : IR B) (bA : A.natAbs ≤ 2 ^ 60) (bB : B.natAbs ≤ 2 ^ 60) (hR : RND (A + B) R) (hb : RND (R - A) bv) (hs : (B.natAbs ≤ A.natAbs ∧ 0 ≤ A) ∨ (A.natAbs < B.natAbs ∧ 0 ≤ B)) : IR (R - bv) := by
  have cR := rnd_close hR (by omega)
  have exact1 : IR (R - A) → IR (R - bv) := fun q => by
    have := rnd_eq hb q (by omega)
    rw [this, show R - (R - A) = A by omega]; exact hA
  have exact2 : IR (A + B) → IR (R - bv) := fun q => by
    have := rnd_eq hR q (by omega)
    exact exact1 (by rw [this, show A + B - A = B by omega]; exact hB)
  rcases hs with ⟨hs, h0⟩ | ⟨hs, h0⟩
  · by_cases hB0 : 0 ≤ B
    · have g1 := rnd_ge hR hA (by omega) (by omega)
      have g2 := rnd_le hR (ir_two hA) (by omega) (by omega)
      exact exact1 (ir_st hR.1 hA (by omega) h0 (by omega) (by omega))
    · by_cases h2 : A ≤ 2 * (-B)
      · have := ir_st hA (ir_neg hB) h0 (by omega) h2 (by omega)
        rw [show A - -B = A + B by omega] at this
        exact exact2 this
      · rcases ir_half hA with q | ⟨k, hk, ik⟩
        · exact exact2 (ir_small (by omega))
        · have g1 := rnd_ge hR ik (by omega) (by omega)
          have g2 := rnd_le hR hA (by omega) (by omega)
          exact exact1 (ir_st hR.1 hA (by omega) h0 (by omega) (by omega))
  · by_cases hA0 : 0 ≤ A
    · have g1 := rnd_ge hR hB (by omega) (by omega)
      have g3 := rnd_ge hR (ir_two hA) (by omega) (by omega)
      rcases ir_half hR.1 with q | ⟨k, hk, ik⟩
      · exact exact1 (ir_small (by omega))
      · have g4 := rnd_ge hb ik (by omega) (by omega)
        have g5 := rnd_le hb hR.1 (by omega) (by omega)
        exact ir_st hR.1 hb.1 (by omega) (by omega) (by omega) (by omega)
    · by_cases h2 : B ≤ 2 * (-A)
      · have := ir_st hB (ir_neg hA) h0 (by omega) h2 (by omega)
        rw [show B - -A = A + B by omega] at this
        exact exact2 this
      · have g1 := rnd_ge hR (ir_neg hA) (by omega) (by omega)
        have g4 := rnd_ge hb hR.1 (by omega) (by omega)
        have g5 := rnd_le hb (ir_two hR.1) (by omega) (by omega)
        have := ir_neg (ir_st hb.1 hR.1 (by omega) (by omega) (by omega) (by omega))
        rw [Int.neg_sub] at this
        exact this
theorem two_all {A B R bv : Int} (hA : IR A) (hB : IR B) (bA : A.natAbs ≤ 2 ^ 60) (bB : B.natAbs ≤ 2 ^ 60) (hR : RND (A + B) R) (hb : RND (R - A) bv) : IR (R - bv) := by
  by_cases hs : (B.natAbs ≤ A.natAbs ∧ 0 ≤ A) ∨ (A.natAbs < B.natAbs ∧ 0 ≤ B)
  · exact two_pos hA hB bA bB hR hb hs
  · have hR' := rnd_neg hR
    rw [show -(A + B) = -A + -B by omega] at hR'
    have hb' := rnd_neg hb
    rw [show -(R - A) = -R - -A by omega] at hb'
    have := ir_neg (two_pos (ir_neg hA) (ir_neg hB) (by omega) (by omega) hR' hb' (by omega))
    rw [show -(-R - -bv) = R - bv by omega] at this
    exact this
/-! the same on doubles: numbers n times 2 to the f -/
theorem rep_ir {n : Int} {f : Nat} (h : IR n) (hn : n.natAbs ≤ 2 ^ 70) (hf : f ≤ 1074) : Rep (n * P2 f) := by
  obtain ⟨c, j, rfl, hc⟩ := h
  by_cases h0 : c = 0
  · subst h0; rw [Int.zero_mul, Int.zero_mul]; exact rep_zero
  · have hj : j ≤ 70 := by
      refine Nat.le_of_not_lt fun q => ?_
      have e : (c * P2 j).natAbs = c.natAbs * 2 ^ j := by rw [Int.natAbs_mul]; rfl
      rw [e] at hn
      have h1 : 1 * 2 ^ j ≤ c.natAbs * 2 ^ j := Nat.mul_le_mul_right _ (by omega)
      have h2 : 2 ^ 71 ≤ 2 ^ j := Nat.pow_le_pow_right (by decide) q
      omega
    rw [Int.mul_assoc, ← P2_add]
    exact rep_mk c (j + f) hc (by omega)
/-- x is the whole number n times 2 to the f -/
def At2 (f : Nat) (x : UInt64) (n : Int) : Prop := DFin x ∧ Zv x = n * P2 f
theorem rnd_of {f : Nat} (hf : f ≤ 1074) {x : UInt64} {n : Int} (hn : n.natAbs ≤ 2 ^ 62) (hx : val64 x ≠ .nan) (hle : ∀ V, Rep V → n * P2 f ≤ V → Zv x ≤ V) (hge : ∀ V, Rep V → V ≤ n * P2 f → V ≤ Zv x) : ∃ r, At2 f x r ∧ RND n r := by
  have hp := P2_pos f
  have up : ∀ {a b : Int}, a ≤ b → a * P2 f ≤ b * P2 f := fun q => Int.mul_le_mul_of_nonneg_right q (Int.le_of_lt hp)
  have irb : IR (2 ^ 62 : Int) := ⟨1, 62, by rw [Int.one_mul]; rfl, by decide⟩
  have rH := rep_ir (f := f) irb (by decide) hf
  have rL := rep_ir (f := f) (ir_neg irb) (by decide) hf
  have b1 := hle _ rH (up (by omega))
  have b2 := hge _ rL (up (by omega))
  have hfin := fin_between hx rL rH b2 b1
  have key : ∃ r, Zv x = r * P2 f ∧ IR r := by
    by_cases hs : n.natAbs ≤ 2 ^ 53
    · have rn := rep_ir (f := f) (ir_small hs) (by omega) hf
      exact ⟨n, Int.le_antisymm (hle _ rn (Int.le_refl _)) (hge _ rn (Int.le_refl _)), ir_small hs⟩
    · obtain ⟨c, j, hz, hc, hj⟩ := rep_dec (rep_self hfin)
      have hfj : f ≤ j := by
        refine Nat.le_of_not_lt fun q => ?_
        have ir53 : IR (2 ^ 53 : Int) := ir_small (by decide)
        have r1 := rep_ir (f := f) ir53 (by decide) hf
        have r2 := rep_ir (f := f) (ir_neg ir53) (by decide) hf
        have hbig : 2 ^ 53 * P2 f ≤ Zv x ∨ Zv x ≤ -(2 ^ 53) * P2 f := by
          by_cases h0 : 0 ≤ n
          · exact Or.inl (hge _ r1 (up (by omega)))
          · exact Or.inr (hle _ r2 (up (by omega)))
        have hpj := P2_pos j
        have hle2 : P2 j ≤ P2 f := by
          obtain ⟨t, rfl⟩ := Nat.exists_eq_add_of_le (Nat.le_of_lt q)
          rw [P2_add]
          have := Int.mul_le_mul_of_nonneg_left (show (1 : Int) ≤ P2 t by have := P2_pos t; omega) (Int.le_of_lt hpj)
          omega
        have c1 : c * P2 j ≤ (2 ^ 53 - 1) * P2 j := Int.mul_le_mul_of_nonneg_right (by omega) (Int.le_of_lt hpj)
        have c2 : (-(2 ^ 53 - 1)) * P2 j ≤ c * P2 j := Int.mul_le_mul_of_nonneg_right (by omega) (Int.le_of_lt hpj)
        rw [← hz] at c1 c2
        omega
      obtain ⟨t, rfl⟩ := Nat.exists_eq_add_of_le hfj
      exact ⟨c * P2 t, by rw [hz, P2_add]; ((try generalize P2 1074 = U1); (try generalize P2 1073 = U2); (try generalize P2 1072 = U3); (try generalize P2 (1074 - e) = U4); (try generalize P2 e = U5); (try generalize P2 1021 = U6); (try generalize P2 53 = U7); ac_rfl), c, t, rfl, Nat.le_of_lt hc⟩
  obtain ⟨r, hr, ir⟩ := key
  refine ⟨r, ⟨hfin, hr⟩, ir, fun v iv hv => ⟨fun q => ?_, fun q => ?_⟩⟩
  · have := hle _ (rep_ir (f := f) iv hv hf) (up q)
    rw [hr] at this
    exact own_le_of hp this
  · have := hge _ (rep_ir (f := f) iv hv hf) (up q)
    rw [hr] at this
    exact own_le_of hp this
theorem add_rnd {f : Nat} (hf : f ≤ 1074) {a b : UInt64} {k n : Int} (ha : At2 f a k) (hb : At2 f b n) (h : (k + n).natAbs ≤ 2 ^ 62) : ∃ r, At2 f (FP.dadd a b) r ∧ RND (k + n) r := by
  have e : Zv a + Zv b = (k + n) * P2 f := by rw [ha.2, hb.2, Int.add_mul]
  exact rnd_of hf h (not_nan (Core.dadd_out ha.1.notNaN hb.1)) (fun V hV q => add_le ha.1 hb.1 hV (by rw [e]; exact q)) (fun V hV q => add_ge ha.1 hb.1 hV (by rw [e]; exact q))
theorem sub_rnd {f : Nat} (hf : f ≤ 1074) {a b : UInt64} {k n : Int} (ha : At2 f a k) (hb : At2 f b n) (h : (k - n).natAbs ≤ 2 ^ 62) : ∃ r, At2 f (FP.dsub a b) r ∧ RND (k - n) r := by
  have hb' : At2 f (Core.dneg b) (-n) := ⟨(cneg_eq hb.1).1, by rw [(cneg_eq hb.1).2, hb.2, Int.neg_mul]⟩
  have := add_rnd hf ha hb' (by rw [show k + -n = k - n by omega]; exact h)
  rw [show k + -n = k - n by omega] at this
  rw [show FP.dsub a b = FP.dadd a (Core.dneg b) from Core.dsub_eq a b]
  exact this
/-- Knuth's error term: exact -/
theorem two_sum {f : Nat} (hf : f ≤ 1074) {a b s : UInt64} {A B R : Int} (ha : At2 f a A) (hb : At2 f b B) (hs : At2 f s R) (iA : IR A) (iB : IR B) (bA : A.natAbs ≤ 2 ^ 60) (bB : B.natAbs ≤ 2 ^ 60) (hR : RND (A + B) R) :
    ∃ bv av, At2 f (FP.dsub s a) bv ∧ At2 f (FP.dsub s (FP.dsub s a)) av ∧ At2 f (FP.dsub a (FP.dsub s (FP.dsub s a))) (A - av) ∧ At2 f (FP.dsub b (FP.dsub s a)) (B - bv) ∧ At2 f (FP.dadd (FP.dsub a (FP.dsub s (FP.dsub s a))) (FP.dsub b (FP.dsub s a))) (A + B - R) := by
  have cR := rnd_close hR (by omega)
  obtain ⟨bv, h1, r1⟩ := sub_rnd hf hs ha (by omega)
  have c1 := rnd_close r1 (by omega)
  obtain ⟨av, h2, r2⟩ := sub_rnd hf hs h1 (by omega)
  have e2 := rnd_eq r2 (two_all iA iB bA bB hR r1) (by omega)
  obtain ⟨u, h3, r3⟩ := sub_rnd hf ha h2 (by omega)
  have e3 := rnd_eq r3 (ir_small (by omega)) (by omega)
  obtain ⟨w, h4, r4⟩ := sub_rnd hf hb h1 (by omega)
  have e4 := rnd_eq r4 (ir_small (by omega)) (by omega)
  obtain ⟨z, h5, r5⟩ := add_rnd hf h3 h4 (by omega)
  have e5 := rnd_eq r5 (ir_small (by omega)) (by omega)
  refine ⟨bv, av, h1, h2, by rw [← e3]; exact h3, by rw [← e4]; exact h4, ?_⟩
  rw [show A + B - R = z by omega]; exact h5
/-! rounding and a power of two -/
theorem lead_nat {N : Nat} (hN : 0 < N) : leading N 1 = (N.log2 : Int) := by
  have h1 : (1 : Nat).log2 = 0 := rfl
  have h2 : 2 ^ N.log2 ≤ N := Nat.log2_self_le (by omega)
  unfold leading
  dsimp only
  rw [h1]
  have e : ((N.log2 : Int) - ((0 : Nat) : Int)) = (N.log2 : Int) := by omega
  rw [e, if_pos]
  have a1 : (N.log2 : Int).toNat = N.log2 := by omega
  have a2 : (-(N.log2 : Int)).toNat = 0 := by omega
  rw [a1, a2]; omega
theorem scale_core {N k : Nat} (s s' : Bool) (hN : 0 < N) (hb : N < 2 ^ 64) (hk : k ≤ 62) : zmag b64 (roundRatio b64 s N 1 0) = zmag b64 (roundRatio b64 s' N 1 (-(k : Int))) * 2 ^ k := by
  have hL : N.log2 < 64 := (Nat.log2_lt (by omega)).mpr hb
  have hq : ∀ e : Int, -62 ≤ e → e ≤ 0 → quantum b64 N 1 e = (N.log2 : Int) + e - 52 := by
    intro e h1 h2
    unfold quantum
    rw [lead_nat hN, qmin_b64]
    have : (b64.p : Int) = 53 := rfl
    omega
  have hr : ∀ (s : Bool) (e : Int), -62 ≤ e → e ≤ 0 → ∃ (c d : Nat), zmag b64 (roundRatio b64 s N 1 e) = c * 2 ^ ((N.log2 : Int) + e - 52 + d + 1074).toNat ∧ d ≤ 1 ∧ (nearest (N * 2 ^ (52 - (N.log2 : Int)).toNat) (1 * 2 ^ ((N.log2 : Int) - 52).toNat) < 2 ^ b64.p → c = nearest (N * 2 ^ (52 - (N.log2 : Int)).toNat) (1 * 2 ^ ((N.log2 : Int) - 52).toNat) ∧ d = 0) ∧ (¬ nearest (N * 2 ^ (52 - (N.log2 : Int)).toNat) (1 * 2 ^ ((N.log2 : Int) - 52).toNat) < 2 ^ b64.p → c = b64.tails ∧ d = 1) := by
    intro s e h1 h2
    unfold roundRatio
    rw [if_neg (by omega)]
    unfold roundAt unitsNum unitsDen
    rw [hq e h1 h2]
    rw [show e - ((N.log2 : Int) + e - 52) = 52 - (N.log2 : Int) by omega, show (N.log2 : Int) + e - 52 - e = (N.log2 : Int) - 52 by omega]
    unfold settle
    by_cases hc : nearest (N * 2 ^ (52 - (N.log2 : Int)).toNat) (1 * 2 ^ ((N.log2 : Int) - 52).toNat) < 2 ^ b64.p
    · rw [if_pos hc]
      refine ⟨_, 0, ?_, by omega, fun _ => ⟨rfl, rfl⟩, fun z => absurd hc z⟩
      unfold bound
      rw [if_pos (by rw [own_qmax]; omega)]
      show inUnits _ _ _ = _
      unfold inUnits
      rw [qmin_b64]
      congr 2 <;> omega
    · rw [if_neg hc]
      refine ⟨_, 1, ?_, by omega, fun z => absurd z hc, fun _ => ⟨rfl, rfl⟩⟩
      unfold bound
      rw [if_pos (by rw [own_qmax]; omega)]
      show inUnits _ _ _ = _
      unfold inUnits
      rw [qmin_b64]
      congr 2 <;> omega
  obtain ⟨c1, d1, z1, l1, p1, n1⟩ := hr s 0 (by omega) (by omega)
  obtain ⟨c2, d2, z2, l2, p2, n2⟩ := hr s' (-(k : Int)) (by omega) (by omega)
  have hc : c1 = c2 ∧ d1 = d2 := by
    by_cases hc : nearest (N * 2 ^ (52 - (N.log2 : Int)).toNat) (1 * 2 ^ ((N.log2 : Int) - 52).toNat) < 2 ^ b64.p
    · exact ⟨(p1 hc).1.trans (p2 hc).1.symm, (p1 hc).2.trans (p2 hc).2.symm⟩
    · exact ⟨(n1 hc).1.trans (n2 hc).1.symm, (n1 hc).2.trans (n2 hc).2.symm⟩
  rw [z1, z2, hc.1, hc.2, Nat.mul_assoc, ← Nat.pow_add]
  congr 2
  omega
/-- a sum of two doubles, by the whole number that it stands for -/
theorem sum_form {k : Nat} (hk : k ≤ 62) {a b : UInt64} {A B : Int} (ha : At2 (1074 - k) a A) (hb : At2 (1074 - k) b B) : ∃ sg : Bool, Zv (FP.dadd a b) = signed sg (zmag b64 (roundRatio b64 sg (A + B).natAbs 1 (-(k : Int)))) ∧ (A + B ≠ 0 → sg = decide (A + B < 0)) := by
  obtain ⟨⟨s, c, q, hva⟩, za⟩ := ha
  obtain ⟨⟨t, d, r, hvb⟩, zb⟩ := hb
  have fa := val64_fits a
  have fb := val64_fits b
  rw [hva] at fa
  rw [hvb] at fb
  obtain ⟨sg, n, e, h1, h2, h3⟩ := sum_units fa fb
  have z : signed sg (inUnits n e b64.qmin) = (A + B) * P2 (1074 - k) := by
    rw [h3, Int.add_mul, ← za, ← zb]; unfold Zv; rw [hva, hvb]
  have hm : inUnits n e b64.qmin = (A + B).natAbs * 2 ^ (1074 - k) := by
    have := congrArg Int.natAbs z
    rw [natAbs_signed, Int.natAbs_mul] at this
    exact this
  refine ⟨sg, ?_, ?_⟩
  · unfold Zv
    rw [show FP.dadd a b = Core.dadd a b from rfl, val64_dadd, hva, hvb, h1]
    show signed (sgn (roundRatio b64 sg n 1 e)) (zmag b64 (roundRatio b64 sg n 1 e)) = _
    rw [sgn_roundRatio]
    rw [roundRatio_congr (A' := (A + B).natAbs) (B' := 1) (e' := -(k : Int)) (by decide) (by decide) ?_]
    unfold inUnits at hm
    rw [qmin_b64] at h2 hm
    rw [Nat.mul_one, Nat.mul_one]
    by_cases q0 : -(k : Int) ≤ e
    · rw [show (-(k : Int) - e).toNat = 0 by omega, Nat.pow_zero, Nat.mul_one]
      rw [show (e - -1074).toNat = (e - -(k : Int)).toNat + (1074 - k) by omega, Nat.pow_add, ← Nat.mul_assoc] at hm
      exact Nat.eq_of_mul_eq_mul_right (Nat.two_pow_pos _) hm
    · rw [show (e - -(k : Int)).toNat = 0 by omega, Nat.pow_zero, Nat.mul_one]
      rw [show 1074 - k = (-(k : Int) - e).toNat + (e - -1074).toNat by omega, Nat.pow_add, ← Nat.mul_assoc] at hm
      exact Nat.eq_of_mul_eq_mul_right (Nat.two_pow_pos _) hm
  · intro h0
    have hp := P2_pos (1074 - k)
    have hpos : 0 < inUnits n e b64.qmin := by
      rw [hm]; exact Nat.mul_pos (by omega) (Nat.two_pow_pos _)
    have := signed_lt_zero sg hpos
    rw [z] at this
    rw [← this]
    by_cases q0 : A + B < 0
    · rw [decide_eq_true q0, decide_eq_true (Int.mul_neg_of_neg_of_pos q0 hp)]
    · rw [decide_eq_false q0, decide_eq_false (by have := Int.mul_nonneg (show 0 ≤ A + B by omega) (Int.le_of_lt hp); omega)]
theorem own_scale {k : Nat} (hk : k ≤ 62) {a b a' b' : UInt64} {A B : Int} (ha : At2 (1074 - k) a A) (hb : At2 (1074 - k) b B) (ha' : At2 1074 a' A) (hb' : At2 1074 b' B) (h : (A + B).natAbs < 2 ^ 64) : Zv (FP.dadd a' b') = Zv (FP.dadd a b) * P2 k := by
  obtain ⟨sg, z1, s1⟩ := sum_form hk ha hb
  obtain ⟨sh, z2, s2⟩ := sum_form (k := 0) (by omega) ha' hb'
  rw [z1, z2]
  by_cases h0 : A + B = 0
  · rw [h0]
    have e : ∀ (s : Bool) (x : Int), zmag b64 (roundRatio b64 s (0 : Int).natAbs 1 x) = 0 := by
      intro s x
      show zmag b64 (roundRatio b64 s 0 1 x) = 0
      unfold roundRatio
      rw [if_pos rfl]
      exact Nat.zero_mul _
    rw [e, e, signed_zero, signed_zero, Int.zero_mul]
  · rw [s1 h0, s2 h0]
    show signed _ (zmag b64 (roundRatio b64 _ (A + B).natAbs 1 0)) = _
    rw [scale_core (decide (A + B < 0)) (decide (A + B < 0)) (by omega) h hk, signed_mul]
    rfl
end OwnTwo
section OwnLaw
open Jvm.FP Jvm.FP.Core Jvm.Free.Fl
/-- what part gives -/
def own_part (x : Int64) (k : Int32) : Int64 :=
  (x >>> Int32.toInt64 (((11 : Int32) + ((k &&& (255 : Int32)) - ((k &&& (255 : Int32)) / (53 : Int32)) * (53 : Int32))) &&& 0x3f)) <<< Int32.toInt64 (((Int32.toUInt32 k >>> Int32.toUInt32 ((8 : Int32) &&& 31)).toInt32 &&& (7 : Int32)) &&& 0x3f)
/-- what roundingError gives -/
def own_err (x y s : UInt64) : UInt64 := FP.dadd (FP.dsub x (FP.dsub s (FP.dsub s x))) (FP.dsub y (FP.dsub s x))
def own_nn (x y s : UInt64) : Prop := NoNaN64 (FP.dsub s x) ∧ NoNaN64 (FP.dsub s (FP.dsub s x)) ∧ NoNaN64 (FP.dsub x (FP.dsub s (FP.dsub s x))) ∧ NoNaN64 (FP.dsub y (FP.dsub s x)) ∧ NoNaN64 (own_err x y s)
theorem own_bits {r : Int32} (h0 : 0 ≤ r.toInt) (h1 : r.toInt < 64) : r.toBitVec.toNat % 64 = r.toInt.toNat := by
  have h2 := r.toBitVec.isLt
  have e : r.toInt = r.toBitVec.toInt := rfl
  rw [BitVec.toInt_eq_toNat_cond] at e
  split at e <;> omega
theorem own_l1 {x : Int64} {k : Int32} {v : Int64} (h : own_part x k = v) : IR v.toInt ∧ v.toInt.natAbs ≤ 2 ^ 59 := by
  unfold own_part at h
  generalize hr : (11 : Int32) + ((k &&& (255 : Int32)) - ((k &&& (255 : Int32)) / (53 : Int32)) * (53 : Int32)) = r at h
  generalize hs : ((Int32.toUInt32 k >>> Int32.toUInt32 ((8 : Int32) &&& 31)).toInt32 &&& (7 : Int32)) = t at h
  generalize hX : x >>> Int32.toInt64 (r &&& 0x3f) = X at h
  have e1 := c_mask k 255 8 (by decide) (by decide)
  have e2 := rem_toInt (k &&& 255) 53
  rw [Int.tmod_eq_emod_of_nonneg (by omega)] at e2
  have e53 : (53 : Int32).toInt = 53 := rfl
  rw [e53] at e2
  have e3 := c_iadd 11 ((k &&& (255 : Int32)) - ((k &&& (255 : Int32)) / (53 : Int32)) * (53 : Int32))
  rw [hr] at e3
  have e4 := rng32 r
  have e11 : (11 : Int32).toInt = 11 := rfl
  have hr1 : 11 ≤ r.toInt ∧ r.toInt ≤ 63 := by omega
  have e5 := c_mask ((Int32.toUInt32 k >>> Int32.toUInt32 ((8 : Int32) &&& 31)).toInt32) 7 3 (by decide) (by decide)
  rw [hs] at e5
  have ht : 0 ≤ t.toInt ∧ t.toInt ≤ 7 := by omega
  have eX := c_lshr x r r.toInt.toNat (own_bits (by omega) (by omega))
  rw [hX] at eX
  have hx := rng64 x
  have p11 : (2 ^ 11 : Int) ≤ ((2 ^ r.toInt.toNat : Nat) : Int) := by
    have := Nat.pow_le_pow_right (show 0 < 2 by decide) (show 11 ≤ r.toInt.toNat by omega)
    omega
  have bX : X.toInt.natAbs ≤ 2 ^ 52 := by
    generalize ((2 ^ r.toInt.toNat : Nat) : Int) = M at *
    have d1 : X.toInt * M ≤ x.toInt := by rw [eX]; exact Int.ediv_mul_le _ (by omega)
    have d2 : x.toInt < (X.toInt + 1) * M := by rw [eX]; exact Int.lt_ediv_add_one_mul_self _ (by omega)
    have u1 : ¬ (2 ^ 52 + 1 ≤ X.toInt) := fun q => by
      have := Int.mul_le_mul q p11 (by omega) (by omega)
      omega
    have u2 : ¬ (X.toInt + 1 ≤ -(2 ^ 52)) := fun q => by
      have a1 : (2 ^ 52) * (2 ^ 11) ≤ (-(X.toInt + 1)) * M := Int.mul_le_mul (by omega) p11 (by omega) (by omega)
      rw [Int.neg_mul] at a1
      omega
    omega
  have eL := c_lshl X t t.toInt.toNat (own_bits (by omega) (by omega))
  rw [h] at eL
  have hv := rng64 v
  have p7 : ((2 ^ t.toInt.toNat : Nat) : Int) ≤ 128 := by
    have := Nat.pow_le_pow_right (show 0 < 2 by decide) (show t.toInt.toNat ≤ 7 by omega)
    omega
  have p0 : 0 < ((2 ^ t.toInt.toNat : Nat) : Int) := P2_pos _
  have hm : (X.toInt * ((2 ^ t.toInt.toNat : Nat) : Int)).natAbs ≤ 2 ^ 59 := by
    rw [Int.natAbs_mul]
    have := Nat.mul_le_mul bX (show ((2 ^ t.toInt.toNat : Nat) : Int).natAbs ≤ 128 by omega)
    omega
  have ev : v.toInt = X.toInt * ((2 ^ t.toInt.toNat : Nat) : Int) := by omega
  rw [ev]
  exact ⟨⟨X.toInt, t.toInt.toNat, rfl, by omega⟩, hm⟩
theorem own_l4 {e u20 ex : Int32} {u30 : Int64} {u31 : UInt64} (h1 : e &&& 2147483647 = u20) (h2 : u20 - (u20 / 63) * 63 = ex) (h3 : (1 : Int64) <<< Int32.toInt64 (ex &&& 0x3f) = u30) (h4 : FP.l2d u30 = u31) : ∃ k : Nat, k ≤ 62 ∧ At2 (1074 - k) (FP.ddiv 4607182418800017408 u31) 1 := by
  have e1 := c_mask e 2147483647 31 (by decide) (by decide)
  rw [h1] at e1
  have e2 := rem_toInt u20 63
  rw [h2, Int.tmod_eq_emod_of_nonneg (by omega)] at e2
  have e63 : (63 : Int32).toInt = 63 := rfl
  rw [e63] at e2
  have hk : 0 ≤ ex.toInt ∧ ex.toInt ≤ 62 := by omega
  have e3 := c_lshl 1 ex ex.toInt.toNat (own_bits (by omega) (by omega))
  rw [h3] at e3
  have o : (1 : Int64).toInt = 1 := rfl
  rw [o, Int.one_mul] at e3
  have r3 := rng64 u30
  have p62 : ((2 ^ ex.toInt.toNat : Nat) : Int) ≤ 4611686018427387904 := by
    have := Nat.pow_le_pow_right (show 0 < 2 by decide) (show ex.toInt.toNat ≤ 62 by omega)
    omega
  have p0 : 0 < ((2 ^ ex.toInt.toNat : Nat) : Int) := P2_pos _
  have ev : u30.toInt = P2 ex.toInt.toNat := by
    show u30.toInt = ((2 ^ ex.toInt.toNat : Nat) : Int)
    omega
  refine ⟨ex.toInt.toNat, by omega, ?_⟩
  have hU := P2_pos 1074
  have f31 : DFin u31 := h4 ▸ l2d_dfin u30
  have z31 : Zv u31 = P2 ex.toInt.toNat * P2 1074 := by
    rw [← h4, ← ev]
    refine l2d_rep (rep_of 1 (ex.toInt.toNat + 1074) (by decide) (by omega) ?_)
    rw [ev, P2_add, Int.one_mul]
  have hp : 0 < Zv u31 := by rw [z31]; exact Int.mul_pos (P2_pos _) hU
  have e5 : P2 1074 = P2 (1074 - ex.toInt.toNat) * P2 ex.toInt.toNat := by rw [← P2_add]; congr 1; omega
  obtain ⟨d1, d2⟩ := div_eq one_fin f31 hp (V := P2 (1074 - ex.toInt.toNat)) (rep_of 1 (1074 - ex.toInt.toNat) (by decide) (by omega) (by rw [Int.one_mul])) (by
    rw [one_z, z31, Int.one_mul, ← Int.mul_assoc, ← e5])
  exact ⟨d1, by rw [d2, Int.one_mul]⟩
theorem own_l5 {k : Nat} (hk : k ≤ 62) {v : Int64} {A : Int} {x sc : UInt64} (h : FP.l2d v = x) (hv : v.toInt = A) (i : IR A) (b : A.natAbs ≤ 2 ^ 59) (S : At2 (1074 - k) sc 1) : At2 (1074 - k) (FP.dmul x sc) A := by
  subst hv
  have zx : Zv x = v.toInt * P2 1074 := by rw [← h]; exact l2d_rep (rep_ir i (by omega) (by omega))
  have fx : DFin x := h ▸ l2d_dfin v
  exact mul_eq fx S.1 (rep_ir i (by omega) (by omega)) (by rw [zx, S.2, Int.one_mul]; ((try generalize P2 1074 = U1); (try generalize P2 1073 = U2); (try generalize P2 1072 = U3); (try generalize P2 (1074 - e) = U4); (try generalize P2 e = U5); (try generalize P2 1021 = U6); (try generalize P2 53 = U7); ac_rfl))
theorem own_l2d {v : Int64} {x : UInt64} (h : FP.l2d v = x) (i : IR v.toInt) (b : v.toInt.natAbs ≤ 2 ^ 59) : At2 1074 x v.toInt :=
  ⟨h ▸ l2d_dfin v, by rw [← h]; exact l2d_rep (rep_ir i (by omega) (by omega))⟩
theorem own_u64 {k : Nat} (hk : k ≤ 62) {a b a' b' sm : UInt64} {A B R : Int} (ha : At2 (1074 - k) a A) (hb : At2 (1074 - k) b B) (hs : FP.dadd a b = sm) (hR : At2 (1074 - k) sm R) (ha' : At2 1074 a' A) (hb' : At2 1074 b' B) (bA : A.natAbs ≤ 2 ^ 59) (bB : B.natAbs ≤ 2 ^ 59) : At2 1074 (FP.dadd a' b') R := by
  obtain ⟨r, h1, h2⟩ := add_rnd (Nat.le_refl 1074) ha' hb' (by omega)
  have := own_scale hk ha hb ha' hb' (by omega)
  refine ⟨h1.1, ?_⟩
  rw [this, hs, hR.2, Int.mul_assoc, ← P2_add]
  congr 2
  omega
theorem own_ri {x : UInt64} {v : Int64} {R : Int} (h : FP.d2l x = v) (hx : At2 1074 x R) (b : R.natAbs ≤ 2 ^ 62) : v.toInt = R := by
  rw [← h]; exact d2l_eq hx.1 hx.2 (by omega) (by omega)
theorem own_xe {a b u72 ri xe : Int64} {R : Int} (h1 : a + b = u72) (h2 : u72 - ri = xe) (hr : ri.toInt = R) (bA : a.toInt.natAbs ≤ 2 ^ 59) (bB : b.toInt.natAbs ≤ 2 ^ 59) (hR : RND (a.toInt + b.toInt) R) : xe.toInt = a.toInt + b.toInt - R ∧ xe.toInt.natAbs ≤ 1024 ∧ R.natAbs ≤ 2 ^ 62 := by
  have c := rnd_close hR (by omega)
  have g1 := c_ladd a b
  rw [h1] at g1
  have g2 := c_lsub u72 ri
  rw [h2] at g2
  have r1 := rng64 u72
  have r2 := rng64 xe
  omega
theorem own_Rb {a b : Int64} {R : Int} (bA : a.toInt.natAbs ≤ 2 ^ 59) (bB : b.toInt.natAbs ≤ 2 ^ 59) (hR : RND (a.toInt + b.toInt) R) : R.natAbs ≤ 2 ^ 62 := by
  have c := rnd_close hR (by omega)
  omega
theorem own_fin {k : Nat} (hk : k ≤ 62) {a b s got want : UInt64} {A B R : Int} (ha : At2 (1074 - k) a A) (hb : At2 (1074 - k) b B) (hs : At2 (1074 - k) s R) (iA : IR A ∧ A.natAbs ≤ 2 ^ 59) (iB : IR B ∧ B.natAbs ≤ 2 ^ 59) (hR : RND (A + B) R) :
    own_nn a b s ∧ At2 (1074 - k) (own_err a b s) (A + B - R) := by
  obtain ⟨bv, av, h1, h2, h3, h4, h5⟩ := two_sum (f := 1074 - k) (by omega) ha hb hs iA.1 iB.1 (by omega) (by omega) hR
  exact ⟨⟨(nn_of h1.1), (nn_of h2.1), (nn_of h3.1), (nn_of h4.1), (nn_of h5.1)⟩, h5⟩
end OwnLaw

theorem d1_0 : decode method_3_code 0 = .ok (.bipush 11, 2) := by decide +kernel
theorem d1_2 : decode method_3_code 2 = .ok (.iload_n 2, 1) := by decide +kernel
theorem d1_3 : decode method_3_code 3 = .ok (.sipush 255, 3) := by decide +kernel
theorem d1_6 : decode method_3_code 6 = .ok (.iand, 1) := by decide +kernel
theorem d1_7 : decode method_3_code 7 = .ok (.bipush 53, 2) := by decide +kernel
theorem d1_9 : decode method_3_code 9 = .ok (.irem, 1) := by decide +kernel
theorem d1_10 : decode method_3_code 10 = .ok (.iadd, 1) := by decide +kernel
theorem d1_11 : decode method_3_code 11 = .ok (.istore_n 3, 1) := by decide +kernel
theorem d1_12 : decode method_3_code 12 = .ok (.iload_n 2, 1) := by decide +kernel
theorem d1_13 : decode method_3_code 13 = .ok (.bipush 8, 2) := by decide +kernel
theorem d1_15 : decode method_3_code 15 = .ok (.iushr, 1) := by decide +kernel
theorem d1_16 : decode method_3_code 16 = .ok (.bipush 7, 2) := by decide +kernel
theorem d1_18 : decode method_3_code 18 = .ok (.iand, 1) := by decide +kernel
theorem d1_19 : decode method_3_code 19 = .ok (.istore 4, 2) := by decide +kernel
theorem d1_21 : decode method_3_code 21 = .ok (.lload_n 0, 1) := by decide +kernel
theorem d1_22 : decode method_3_code 22 = .ok (.iload_n 3, 1) := by decide +kernel
theorem d1_23 : decode method_3_code 23 = .ok (.lshr, 1) := by decide +kernel
theorem d1_24 : decode method_3_code 24 = .ok (.iload 4, 2) := by decide +kernel
theorem d1_26 : decode method_3_code 26 = .ok (.lshl, 1) := by decide +kernel
theorem d1_27 : decode method_3_code 27 = .ok (.lreturn, 1) := by decide +kernel
set_option maxRecDepth 65536 in
set_option maxHeartbeats 40000000 in
theorem rm_part (l : Launch) (Z : State) (a0 : Array Value) (hw : ∀ d ∈ tables_1, d.before a0 Z = true) (x : Int64) (k : Int32) (h0 : Heap) (n0 : Nat) (Z0 : n0 ≤ h0.size)  :
    Con l Z (⟨"com/example/rank2/rank2/fusion/DoubleDoubleSumRoundingErrorPinLaw", "part", "(JI)J"⟩ : MethodName) method_3_code 5 (some .long) ({ frames := 0, cells := 0, slots := 0, locals := 0 } : Room) #[(.long x), (.int k)] h0 (fun v h L => v = some (.long (own_part x k)) ∧ Fr n0 L ∧ h = h0) := by
  refine enter (l := l) (Z := Z) (y := (⟨"com/example/rank2/rank2/fusion/DoubleDoubleSumRoundingErrorPinLaw", "part", "(JI)J"⟩ : MethodName)) (bytes := method_3_code) (maxL := 5) (ret := (some .long)) (ws := []) (rm := ({ frames := 0, cells := 0, slots := 0, locals := 0 } : Room)) (as' := #[(.long x), (.int k)]) (h0 := h0) (Qv := (fun v h L => v = some (.long (own_part x k)) ∧ Fr n0 L ∧ h = h0)) (kc := 0) (ks := 0) (by first | exact plainFor_of_name (by first | (simp [plainName, overriddenIn]; done) | decide +kernel) | decide +kernel) (Ls := #[.val (.long x), .second, .val (.int k), .unset, .unset]) (fun m => by first | (simp [entryFrame, mkF, argsToLocals, Value.category]; done) | rfl) ?_
  intro p e s m below meth c s₁ hx hby hml hown hnm hret hlk hZ X0 e0
  have hown : s.vm.findClass "com/example/rank2/rank2/fusion/DoubleDoubleSumRoundingErrorPinLaw" = some m.cls := hown
  have hml : c.maxLocals = 5 := hml
  have N0 := Fr.nil n0
  refine Go.bipush X0.here hx (Jvm.hb hby d1_0) (v := (11 : Int32)) rfl (q := 2) rfl ?_
  refine Go.iloadN X0.here hx (Jvm.hb hby d1_2) rfl (q := 3) rfl ?_
  refine Go.sipush X0.here hx (Jvm.hb hby d1_3) (v := (255 : Int32)) rfl (q := 6) rfl ?_
  obtain ⟨u6, hu6⟩ : ∃ zq, k &&& (255 : Int32) = zq := ⟨_, rfl⟩
  refine Go.iand X0.here hx (Jvm.hb hby d1_6) hu6 (q := 7) rfl ?_
  refine Go.bipush X0.here hx (Jvm.hb hby d1_7) (v := (53 : Int32)) rfl (q := 9) rfl ?_
  obtain ⟨u9, hu9⟩ : ∃ zq, u6 - (u6 / (53 : Int32)) * (53 : Int32) = zq := ⟨_, rfl⟩
  refine Go.irem X0.here hx (Jvm.hb hby d1_9) (by decide) hu9 (q := 10) rfl ?_
  obtain ⟨u10, hu10⟩ : ∃ zq, (11 : Int32) + u9 = zq := ⟨_, rfl⟩
  refine Go.iadd X0.here hx (Jvm.hb hby d1_10) hu10 (q := 11) rfl ?_
  refine Go.istoreN X0.here hx (Jvm.hb hby d1_11) (l2 := #[.val (.long x), .second, .val (.int k), .val (.int u10), .unset]) rfl (q := 12) rfl ?_
  refine Go.iloadN X0.here hx (Jvm.hb hby d1_12) rfl (q := 13) rfl ?_
  refine Go.bipush X0.here hx (Jvm.hb hby d1_13) (v := (8 : Int32)) rfl (q := 15) rfl ?_
  obtain ⟨u15, hu15⟩ : ∃ zq, (Int32.toUInt32 k >>> Int32.toUInt32 ((8 : Int32) &&& 31)).toInt32 = zq := ⟨_, rfl⟩
  refine Go.iushr X0.here hx (Jvm.hb hby d1_15) hu15 (q := 16) rfl ?_
  refine Go.bipush X0.here hx (Jvm.hb hby d1_16) (v := (7 : Int32)) rfl (q := 18) rfl ?_
  obtain ⟨u18, hu18⟩ : ∃ zq, u15 &&& (7 : Int32) = zq := ⟨_, rfl⟩
  refine Go.iand X0.here hx (Jvm.hb hby d1_18) hu18 (q := 19) rfl ?_
  refine Go.istore X0.here hx (Jvm.hb hby d1_19) (l2 := #[.val (.long x), .second, .val (.int k), .val (.int u10), .val (.int u18)]) rfl (q := 21) rfl ?_
  refine Go.lloadN X0.here hx (Jvm.hb hby d1_21) rfl (q := 22) rfl ?_
  refine Go.iloadN X0.here hx (Jvm.hb hby d1_22) rfl (q := 23) rfl ?_
  obtain ⟨u23, hu23⟩ : ∃ zq, x >>> Int32.toInt64 (u10 &&& 0x3f) = zq := ⟨_, rfl⟩
  refine Go.lshr X0.here hx (Jvm.hb hby d1_23) hu23 (q := 24) rfl ?_
  refine Go.iload X0.here hx (Jvm.hb hby d1_24) rfl (q := 26) rfl ?_
  obtain ⟨u26, hu26⟩ : ∃ zq, u23 <<< Int32.toInt64 (u18 &&& 0x3f) = zq := ⟨_, rfl⟩
  refine Go.lshl X0.here hx (Jvm.hb hby d1_26) hu26 (q := 27) rfl ?_
  refine Go.retL X0 hx hret hlk (Jvm.hb hby d1_27) (by decide) (by decide) ?_
  exact ⟨by subst_vars; rfl, N0, e0⟩
theorem d2_0 : decode prog_22_method_6_code 0 = .ok (.dload 4, 2) := by decide +kernel
theorem d2_2 : decode prog_22_method_6_code 2 = .ok (.dload_n 0, 1) := by decide +kernel
theorem d2_3 : decode prog_22_method_6_code 3 = .ok (.dsub, 1) := by decide +kernel
theorem d2_4 : decode prog_22_method_6_code 4 = .ok (.dstore 6, 2) := by decide +kernel
theorem d2_6 : decode prog_22_method_6_code 6 = .ok (.dload 4, 2) := by decide +kernel
theorem d2_8 : decode prog_22_method_6_code 8 = .ok (.dload 6, 2) := by decide +kernel
theorem d2_10 : decode prog_22_method_6_code 10 = .ok (.dsub, 1) := by decide +kernel
theorem d2_11 : decode prog_22_method_6_code 11 = .ok (.dstore 8, 2) := by decide +kernel
theorem d2_13 : decode prog_22_method_6_code 13 = .ok (.dload_n 0, 1) := by decide +kernel
theorem d2_14 : decode prog_22_method_6_code 14 = .ok (.dload 8, 2) := by decide +kernel
theorem d2_16 : decode prog_22_method_6_code 16 = .ok (.dsub, 1) := by decide +kernel
theorem d2_17 : decode prog_22_method_6_code 17 = .ok (.dload_n 2, 1) := by decide +kernel
theorem d2_18 : decode prog_22_method_6_code 18 = .ok (.dload 6, 2) := by decide +kernel
theorem d2_20 : decode prog_22_method_6_code 20 = .ok (.dsub, 1) := by decide +kernel
theorem d2_21 : decode prog_22_method_6_code 21 = .ok (.dadd, 1) := by decide +kernel
theorem d2_22 : decode prog_22_method_6_code 22 = .ok (.dreturn, 1) := by decide +kernel
set_option maxRecDepth 65536 in
set_option maxHeartbeats 40000000 in
theorem rm_err (l : Launch) (Z : State) (a0 : Array Value) (hw : ∀ d ∈ tables_1, d.before a0 Z = true) (x : UInt64) (y : UInt64) (z : UInt64) (h0 : Heap) (n0 : Nat) (Z0 : n0 ≤ h0.size) (hn : own_nn x y z) :
    Con l Z (⟨"com/example/rank2/rank2/fusion/DoubleDoubleSum", "roundingError", "(DDD)D"⟩ : MethodName) prog_22_method_6_code 10 (some .double) ({ frames := 0, cells := 0, slots := 0, locals := 0 } : Room) #[(.double x), (.double y), (.double z)] h0 (fun v h L => v = some (.double (own_err x y z)) ∧ Fr n0 L ∧ h = h0) := by
  refine enter (l := l) (Z := Z) (y := (⟨"com/example/rank2/rank2/fusion/DoubleDoubleSum", "roundingError", "(DDD)D"⟩ : MethodName)) (bytes := prog_22_method_6_code) (maxL := 10) (ret := (some .double)) (ws := []) (rm := ({ frames := 0, cells := 0, slots := 0, locals := 0 } : Room)) (as' := #[(.double x), (.double y), (.double z)]) (h0 := h0) (Qv := (fun v h L => v = some (.double (own_err x y z)) ∧ Fr n0 L ∧ h = h0)) (kc := 0) (ks := 0) (by first | exact plainFor_of_name (by first | (simp [plainName, overriddenIn]; done) | decide +kernel) | decide +kernel) (Ls := #[.val (.double x), .second, .val (.double y), .second, .val (.double z), .second, .unset, .unset, .unset, .unset]) (fun m => by first | (simp [entryFrame, mkF, argsToLocals, Value.category]; done) | rfl) ?_
  intro p e s m below meth c s₁ hx hby hml hown hnm hret hlk hZ X0 e0
  have hown : s.vm.findClass "com/example/rank2/rank2/fusion/DoubleDoubleSum" = some m.cls := hown
  have hml : c.maxLocals = 10 := hml
  have N0 := Fr.nil n0
  refine Go.dload X0.here hx (Jvm.hb hby d2_0) rfl (q := 2) rfl ?_
  refine Go.dloadN X0.here hx (Jvm.hb hby d2_2) rfl (q := 3) rfl ?_
  obtain ⟨u3, hu3⟩ : ∃ zq, FP.dsub z x = zq := ⟨_, rfl⟩
  refine Go.dsub X0.here hx (Jvm.hb hby d2_3) hn.1 hu3 (q := 4) rfl ?_
  refine Go.dstore X0.here hx (Jvm.hb hby d2_4) (l2 := #[.val (.double x), .second, .val (.double y), .second, .val (.double z), .second, .val (.double u3), .second, .unset, .unset]) rfl (q := 6) rfl ?_
  refine Go.dload X0.here hx (Jvm.hb hby d2_6) rfl (q := 8) rfl ?_
  refine Go.dload X0.here hx (Jvm.hb hby d2_8) rfl (q := 10) rfl ?_
  obtain ⟨u10, hu10⟩ : ∃ zq, FP.dsub z u3 = zq := ⟨_, rfl⟩
  refine Go.dsub X0.here hx (Jvm.hb hby d2_10) (hu3 ▸ hn.2.1) hu10 (q := 11) rfl ?_
  refine Go.dstore X0.here hx (Jvm.hb hby d2_11) (l2 := #[.val (.double x), .second, .val (.double y), .second, .val (.double z), .second, .val (.double u3), .second, .val (.double u10), .second]) rfl (q := 13) rfl ?_
  refine Go.dloadN X0.here hx (Jvm.hb hby d2_13) rfl (q := 14) rfl ?_
  refine Go.dload X0.here hx (Jvm.hb hby d2_14) rfl (q := 16) rfl ?_
  obtain ⟨u16, hu16⟩ : ∃ zq, FP.dsub x u10 = zq := ⟨_, rfl⟩
  refine Go.dsub X0.here hx (Jvm.hb hby d2_16) (hu10 ▸ hu3 ▸ hn.2.2.1) hu16 (q := 17) rfl ?_
  refine Go.dloadN X0.here hx (Jvm.hb hby d2_17) rfl (q := 18) rfl ?_
  refine Go.dload X0.here hx (Jvm.hb hby d2_18) rfl (q := 20) rfl ?_
  obtain ⟨u20, hu20⟩ : ∃ zq, FP.dsub y u3 = zq := ⟨_, rfl⟩
  refine Go.dsub X0.here hx (Jvm.hb hby d2_20) (hu3 ▸ hn.2.2.2.1) hu20 (q := 21) rfl ?_
  obtain ⟨u21, hu21⟩ : ∃ zq, FP.dadd u16 u20 = zq := ⟨_, rfl⟩
  refine Go.dadd X0.here hx (Jvm.hb hby d2_21) (by subst_vars; exact hn.2.2.2.2) hu21 (q := 22) rfl ?_
  refine Go.retD X0 hx hret hlk (Jvm.hb hby d2_22) (by decide) (by decide) ?_
  exact ⟨by subst_vars; rfl, N0, e0⟩
set_option maxRecDepth 65536 in
set_option maxHeartbeats 40000000 in
theorem rm_law (l : Launch) (Z : State) (a0 : Array Value) (hw : ∀ d ∈ tables_1, d.before a0 Z = true) (ws : List Jvm.Cond) (q1 : Int64) (q2 : Int64) (q3 : Int32) (q4 : Int32) (q5 : Int32) (h0 : Heap) (n0 : Nat) (Z0 : n0 ≤ h0.size)  :
    MetFree l x (head1 (Jvm.Cond.code x code maxLocals ret :: ws) room_1) (fun a U => a = #[(.long q1), (.long q2), (.int q3), (.int q4), (.int q5)] ∧ Z.Warmed39 U.vm ∧ U.heap = h0) (fun _ _ _ _ _ => True) (fun _ U o U' => ∃ v L, o = .returned v ∧ (fun v h L => v = some (.int (1 : Int32)) ∧ Fr n0 L) v U'.heap L ∧ FrameEnd U o U' L 0 0) := by
  refine enter (l := l) (Z := Z) (y := x) (bytes := code) (maxL := maxLocals) (ret := ret) (ws := ws) (rm := room_1) (as' := #[(.long q1), (.long q2), (.int q3), (.int q4), (.int q5)]) (h0 := h0) (Qv := (fun v h L => v = some (.int (1 : Int32)) ∧ Fr n0 L)) (kc := 0) (ks := 0) (by first | exact plainFor_of_name (by first | (simp [plainName, overriddenIn]; done) | decide +kernel) | decide +kernel) (Ls := #[.val (.long q1), .second, .val (.long q2), .second, .val (.int q3), .val (.int q4), .val (.int q5), .unset, .unset, .unset, .unset, .unset, .unset, .unset, .unset, .unset, .unset, .unset, .unset, .unset, .unset, .unset, .unset, .unset, .unset, .unset, .unset, .unset]) (fun m => by first | (simp [entryFrame, mkF, argsToLocals, Value.category, maxLocals]; done) | rfl) ?_
  intro p e s m below meth c s₁ hx hby hml hown hnm hret hlk hZ X0 e0
  have hown : s.vm.findClass "com/example/rank2/rank2/fusion/DoubleDoubleSumRoundingErrorPinLaw" = some m.cls := hown
  have hml : c.maxLocals = 28 := hml
  have N0 := Fr.nil n0
  refine Go.lloadN X0.here hx (Jvm.hb hby at_0) rfl (q := 1) rfl ?_
  refine Go.iload X0.here hx (Jvm.hb hby at_1) rfl (q := 3) rfl ?_
  refine Go.static X0 hx hZ (y := (⟨"com/example/rank2/rank2/fusion/DoubleDoubleSumRoundingErrorPinLaw", "part", "(JI)J"⟩ : MethodName)) hown (word hw 0 rfl) (word hw 1 rfl) (word hw 3 rfl) (word hw 2 rfl) (by decide) (rm_part l Z a0 hw q1 q3 h0 n0 Z0 ) e0  (argsL := [(.long q1), (.int q3)]) (rest := []) (W := 0) (Jvm.hb hby at_3) rfl rfl (lenOf (pd0) rfl) (by rw [hml]; rfl) (Nat.le_of_eq rfl) (by decide) (by decide) (by decide) (by decide) (q := 6) rfl ?_
  intro T101 L101 w101 X101 hQ101
  obtain ⟨rfl, M101, q101⟩ := hQ101
  have N101 := Fr.app N0 M101
  show Go p e below _ (T101.setTop (mkF m 6 #[.val (.long q1), .second, .val (.long q2), .second, .val (.int q3), .val (.int q4), .val (.int q5), .unset, .unset, .unset, .unset, .unset, .unset, .unset, .unset, .unset, .unset, .unset, .unset, .unset, .unset, .unset, .unset, .unset, .unset, .unset, .unset, .unset] [(.long (own_part q1 q3))]))
  obtain ⟨bA, hbA⟩ : ∃ zq, (own_part q1 q3) = zq := ⟨_, rfl⟩
  rw [hbA]
  have LA := own_l1 hbA
  refine Go.lstore X101.here hx (Jvm.hb hby at_6) (l2 := #[.val (.long q1), .second, .val (.long q2), .second, .val (.int q3), .val (.int q4), .val (.int q5), .val (.long bA), .second, .unset, .unset, .unset, .unset, .unset, .unset, .unset, .unset, .unset, .unset, .unset, .unset, .unset, .unset, .unset, .unset, .unset, .unset, .unset]) rfl (q := 8) rfl ?_
  refine Go.lloadN X101.here hx (Jvm.hb hby at_8) rfl (q := 9) rfl ?_
  refine Go.iload X101.here hx (Jvm.hb hby at_9) rfl (q := 11) rfl ?_
  refine Go.static X101 hx hZ (y := (⟨"com/example/rank2/rank2/fusion/DoubleDoubleSumRoundingErrorPinLaw", "part", "(JI)J"⟩ : MethodName)) hown (word hw 0 rfl) (word hw 1 rfl) (word hw 3 rfl) (word hw 2 rfl) (by decide) (rm_part l Z a0 hw q2 q4 h0 n0 Z0 ) q101  (argsL := [(.long q2), (.int q4)]) (rest := []) (W := 0) (Jvm.hb hby at_11) rfl rfl (lenOf (pd0) rfl) (by rw [hml]; rfl) (Nat.le_of_eq rfl) (by decide) (by decide) (by decide) (by decide) (q := 14) rfl ?_
  intro T102 L102 w102 X102 hQ102
  obtain ⟨rfl, M102, q102⟩ := hQ102
  have N102 := Fr.app N101 M102
  show Go p e below _ (T102.setTop (mkF m 14 #[.val (.long q1), .second, .val (.long q2), .second, .val (.int q3), .val (.int q4), .val (.int q5), .val (.long bA), .second, .unset, .unset, .unset, .unset, .unset, .unset, .unset, .unset, .unset, .unset, .unset, .unset, .unset, .unset, .unset, .unset, .unset, .unset, .unset] [(.long (own_part q2 q4))]))
  obtain ⟨bB, hbB⟩ : ∃ zq, (own_part q2 q4) = zq := ⟨_, rfl⟩
  rw [hbB]
  have LB := own_l1 hbB
  refine Go.lstore X102.here hx (Jvm.hb hby at_14) (l2 := #[.val (.long q1), .second, .val (.long q2), .second, .val (.int q3), .val (.int q4), .val (.int q5), .val (.long bA), .second, .val (.long bB), .second, .unset, .unset, .unset, .unset, .unset, .unset, .unset, .unset, .unset, .unset, .unset, .unset, .unset, .unset, .unset, .unset, .unset]) rfl (q := 16) rfl ?_
  refine Go.iload X102.here hx (Jvm.hb hby at_16) rfl (q := 18) rfl ?_
  refine Go.ldcI X102 hx hown (mvT hZ (word hw 4 rfl)) (Jvm.hb hby at_18) (q := 20) rfl ?_
  obtain ⟨u20, hu20⟩ : ∃ zq, q5 &&& (2147483647 : Int32) = zq := ⟨_, rfl⟩
  refine Go.iand X102.here hx (Jvm.hb hby at_20) hu20 (q := 21) rfl ?_
  refine Go.bipush X102.here hx (Jvm.hb hby at_21) (v := (63 : Int32)) rfl (q := 23) rfl ?_
  obtain ⟨ex, hex⟩ : ∃ zq, u20 - (u20 / (63 : Int32)) * (63 : Int32) = zq := ⟨_, rfl⟩
  refine Go.irem X102.here hx (Jvm.hb hby at_23) (by decide) hex (q := 24) rfl ?_
  refine Go.istore X102.here hx (Jvm.hb hby at_24) (l2 := #[.val (.long q1), .second, .val (.long q2), .second, .val (.int q3), .val (.int q4), .val (.int q5), .val (.long bA), .second, .val (.long bB), .second, .val (.int ex), .unset, .unset, .unset, .unset, .unset, .unset, .unset, .unset, .unset, .unset, .unset, .unset, .unset, .unset, .unset, .unset]) rfl (q := 26) rfl ?_
  refine Go.dconst1 X102.here hx (Jvm.hb hby at_26) (v := (4607182418800017408 : UInt64)) rfl (q := 27) rfl ?_
  refine Go.lconst X102.here hx (Jvm.hb hby at_27) (v := (1 : Int64)) rfl (q := 28) rfl ?_
  refine Go.iload X102.here hx (Jvm.hb hby at_28) rfl (q := 30) rfl ?_
  obtain ⟨u30, hu30⟩ : ∃ zq, (1 : Int64) <<< Int32.toInt64 (ex &&& 0x3f) = zq := ⟨_, rfl⟩
  refine Go.lshl X102.here hx (Jvm.hb hby at_30) hu30 (q := 31) rfl ?_
  obtain ⟨u31, hu31⟩ : ∃ zq, FP.l2d u30 = zq := ⟨_, rfl⟩
  refine Go.l2d X102.here hx (Jvm.hb hby at_31) hu31 (q := 32) rfl ?_
  obtain ⟨kk, hkk, S1⟩ := own_l4 hu20 hex hu30 hu31
  obtain ⟨scl, hscl⟩ : ∃ zq, FP.ddiv (4607182418800017408 : UInt64) u31 = zq := ⟨_, rfl⟩
  refine Go.ddiv X102.here hx (Jvm.hb hby at_32) (nn_of S1.1) hscl (q := 33) rfl ?_
  rw [hscl] at S1
  refine Go.dstore X102.here hx (Jvm.hb hby at_33) (l2 := #[.val (.long q1), .second, .val (.long q2), .second, .val (.int q3), .val (.int q4), .val (.int q5), .val (.long bA), .second, .val (.long bB), .second, .val (.int ex), .val (.double scl), .second, .unset, .unset, .unset, .unset, .unset, .unset, .unset, .unset, .unset, .unset, .unset, .unset, .unset, .unset]) rfl (q := 35) rfl ?_
  refine Go.lload X102.here hx (Jvm.hb hby at_35) rfl (q := 37) rfl ?_
  obtain ⟨u37, hu37⟩ : ∃ zq, FP.l2d bA = zq := ⟨_, rfl⟩
  refine Go.l2d X102.here hx (Jvm.hb hby at_37) hu37 (q := 38) rfl ?_
  refine Go.dload X102.here hx (Jvm.hb hby at_38) rfl (q := 40) rfl ?_
  obtain ⟨da, hda⟩ : ∃ zq, FP.dmul u37 scl = zq := ⟨_, rfl⟩
  have A1 := own_l5 hkk hu37 rfl LA.1 LA.2 S1
  refine Go.dmul X102.here hx (Jvm.hb hby at_40) (nn_of A1.1) hda (q := 41) rfl ?_
  rw [hda] at A1
  refine Go.dstore X102.here hx (Jvm.hb hby at_41) (l2 := #[.val (.long q1), .second, .val (.long q2), .second, .val (.int q3), .val (.int q4), .val (.int q5), .val (.long bA), .second, .val (.long bB), .second, .val (.int ex), .val (.double scl), .second, .val (.double da), .second, .unset, .unset, .unset, .unset, .unset, .unset, .unset, .unset, .unset, .unset, .unset, .unset]) rfl (q := 43) rfl ?_
  refine Go.lload X102.here hx (Jvm.hb hby at_43) rfl (q := 45) rfl ?_
  obtain ⟨u45, hu45⟩ : ∃ zq, FP.l2d bB = zq := ⟨_, rfl⟩
  refine Go.l2d X102.here hx (Jvm.hb hby at_45) hu45 (q := 46) rfl ?_
  refine Go.dload X102.here hx (Jvm.hb hby at_46) rfl (q := 48) rfl ?_
  obtain ⟨db, hdb⟩ : ∃ zq, FP.dmul u45 scl = zq := ⟨_, rfl⟩
  have B1 := own_l5 hkk hu45 rfl LB.1 LB.2 S1
  refine Go.dmul X102.here hx (Jvm.hb hby at_48) (nn_of B1.1) hdb (q := 49) rfl ?_
  rw [hdb] at B1
  refine Go.dstore X102.here hx (Jvm.hb hby at_49) (l2 := #[.val (.long q1), .second, .val (.long q2), .second, .val (.int q3), .val (.int q4), .val (.int q5), .val (.long bA), .second, .val (.long bB), .second, .val (.int ex), .val (.double scl), .second, .val (.double da), .second, .val (.double db), .second, .unset, .unset, .unset, .unset, .unset, .unset, .unset, .unset, .unset, .unset]) rfl (q := 51) rfl ?_
  refine Go.dload X102.here hx (Jvm.hb hby at_51) rfl (q := 53) rfl ?_
  refine Go.dload X102.here hx (Jvm.hb hby at_53) rfl (q := 55) rfl ?_
  obtain ⟨sm, hsm⟩ : ∃ zq, FP.dadd da db = zq := ⟨_, rfl⟩
  obtain ⟨R, R1, R2⟩ := add_rnd (f := 1074 - kk) (by omega) A1 B1 (by have := LA.2; have := LB.2; omega)
  refine Go.dadd X102.here hx (Jvm.hb hby at_55) (nn_of R1.1) hsm (q := 56) rfl ?_
  rw [hsm] at R1
  refine Go.dstore X102.here hx (Jvm.hb hby at_56) (l2 := #[.val (.long q1), .second, .val (.long q2), .second, .val (.int q3), .val (.int q4), .val (.int q5), .val (.long bA), .second, .val (.long bB), .second, .val (.int ex), .val (.double scl), .second, .val (.double da), .second, .val (.double db), .second, .val (.double sm), .second, .unset, .unset, .unset, .unset, .unset, .unset, .unset, .unset]) rfl (q := 58) rfl ?_
  refine Go.lload X102.here hx (Jvm.hb hby at_58) rfl (q := 60) rfl ?_
  obtain ⟨u60, hu60⟩ : ∃ zq, FP.l2d bA = zq := ⟨_, rfl⟩
  refine Go.l2d X102.here hx (Jvm.hb hby at_60) hu60 (q := 61) rfl ?_
  refine Go.lload X102.here hx (Jvm.hb hby at_61) rfl (q := 63) rfl ?_
  obtain ⟨u63, hu63⟩ : ∃ zq, FP.l2d bB = zq := ⟨_, rfl⟩
  refine Go.l2d X102.here hx (Jvm.hb hby at_63) hu63 (q := 64) rfl ?_
  obtain ⟨u64, hu64⟩ : ∃ zq, FP.dadd u60 u63 = zq := ⟨_, rfl⟩
  have U1 := own_u64 hkk A1 B1 hsm R1 (own_l2d hu60 LA.1 LA.2) (own_l2d hu63 LB.1 LB.2) LA.2 LB.2
  refine Go.dadd X102.here hx (Jvm.hb hby at_64) (nn_of U1.1) hu64 (q := 65) rfl ?_
  rw [hu64] at U1
  obtain ⟨ri, hri⟩ : ∃ zq, FP.d2l u64 = zq := ⟨_, rfl⟩
  refine Go.d2l X102.here hx (Jvm.hb hby at_65) hri (q := 66) rfl ?_
  have ri1 := own_ri hri U1 (own_Rb LA.2 LB.2 R2)
  refine Go.lstore X102.here hx (Jvm.hb hby at_66) (l2 := #[.val (.long q1), .second, .val (.long q2), .second, .val (.int q3), .val (.int q4), .val (.int q5), .val (.long bA), .second, .val (.long bB), .second, .val (.int ex), .val (.double scl), .second, .val (.double da), .second, .val (.double db), .second, .val (.double sm), .second, .val (.long ri), .second, .unset, .unset, .unset, .unset, .unset, .unset]) rfl (q := 68) rfl ?_
  refine Go.lload X102.here hx (Jvm.hb hby at_68) rfl (q := 70) rfl ?_
  refine Go.lload X102.here hx (Jvm.hb hby at_70) rfl (q := 72) rfl ?_
  obtain ⟨u72, hu72⟩ : ∃ zq, bA + bB = zq := ⟨_, rfl⟩
  refine Go.ladd X102.here hx (Jvm.hb hby at_72) hu72 (q := 73) rfl ?_
  refine Go.lload X102.here hx (Jvm.hb hby at_73) rfl (q := 75) rfl ?_
  obtain ⟨xe, hxe⟩ : ∃ zq, u72 - ri = zq := ⟨_, rfl⟩
  refine Go.lsub X102.here hx (Jvm.hb hby at_75) hxe (q := 76) rfl ?_
  have X1 := own_xe hu72 hxe ri1 LA.2 LB.2 R2
  refine Go.lstore X102.here hx (Jvm.hb hby at_76) (l2 := #[.val (.long q1), .second, .val (.long q2), .second, .val (.int q3), .val (.int q4), .val (.int q5), .val (.long bA), .second, .val (.long bB), .second, .val (.int ex), .val (.double scl), .second, .val (.double da), .second, .val (.double db), .second, .val (.double sm), .second, .val (.long ri), .second, .val (.long xe), .second, .unset, .unset, .unset, .unset]) rfl (q := 78) rfl ?_
  refine Go.lload X102.here hx (Jvm.hb hby at_78) rfl (q := 80) rfl ?_
  obtain ⟨u80, hu80⟩ : ∃ zq, FP.l2d xe = zq := ⟨_, rfl⟩
  refine Go.l2d X102.here hx (Jvm.hb hby at_80) hu80 (q := 81) rfl ?_
  refine Go.dload X102.here hx (Jvm.hb hby at_81) rfl (q := 83) rfl ?_
  obtain ⟨want, hwant⟩ : ∃ zq, FP.dmul u80 scl = zq := ⟨_, rfl⟩
  have W1 := own_l5 hkk hu80 X1.1 (ir_small (by have := X1.1; have := X1.2.1; omega)) (by have := X1.1; have := X1.2.1; omega) S1
  refine Go.dmul X102.here hx (Jvm.hb hby at_83) (nn_of W1.1) hwant (q := 84) rfl ?_
  rw [hwant] at W1
  refine Go.dstore X102.here hx (Jvm.hb hby at_84) (l2 := #[.val (.long q1), .second, .val (.long q2), .second, .val (.int q3), .val (.int q4), .val (.int q5), .val (.long bA), .second, .val (.long bB), .second, .val (.int ex), .val (.double scl), .second, .val (.double da), .second, .val (.double db), .second, .val (.double sm), .second, .val (.long ri), .second, .val (.long xe), .second, .val (.double want), .second, .unset, .unset]) rfl (q := 86) rfl ?_
  refine Go.dload X102.here hx (Jvm.hb hby at_86) rfl (q := 88) rfl ?_
  refine Go.dload X102.here hx (Jvm.hb hby at_88) rfl (q := 90) rfl ?_
  refine Go.dload X102.here hx (Jvm.hb hby at_90) rfl (q := 92) rfl ?_
  have G1 := own_fin (got := 0) (want := 0) hkk A1 B1 R1 LA LB R2
  refine Go.static X102 hx hZ (y := (⟨"com/example/rank2/rank2/fusion/DoubleDoubleSum", "roundingError", "(DDD)D"⟩ : MethodName)) hown (word hw 5 rfl) (word hw 6 rfl) (word hw 8 rfl) (word hw 7 rfl) (by decide) (rm_err l Z a0 hw da db sm h0 n0 Z0 G1.1) q102  (argsL := [(.double da), (.double db), (.double sm)]) (rest := []) (W := 0) (Jvm.hb hby at_92) rfl rfl (lenOf (pd1) rfl) (by rw [hml]; rfl) (Nat.le_of_eq rfl) (by decide) (by decide) (by decide) (by decide) (q := 95) rfl ?_
  intro T103 L103 w103 X103 hQ103
  obtain ⟨rfl, M103, q103⟩ := hQ103
  have N103 := Fr.app N102 M103
  show Go p e below _ (T103.setTop (mkF m 95 #[.val (.long q1), .second, .val (.long q2), .second, .val (.int q3), .val (.int q4), .val (.int q5), .val (.long bA), .second, .val (.long bB), .second, .val (.int ex), .val (.double scl), .second, .val (.double da), .second, .val (.double db), .second, .val (.double sm), .second, .val (.long ri), .second, .val (.long xe), .second, .val (.double want), .second, .unset, .unset] [(.double (own_err da db sm))]))
  obtain ⟨got, hgot⟩ : ∃ zq, (own_err da db sm) = zq := ⟨_, rfl⟩
  rw [hgot]
  refine Go.dstore X103.here hx (Jvm.hb hby at_95) (l2 := #[.val (.long q1), .second, .val (.long q2), .second, .val (.int q3), .val (.int q4), .val (.int q5), .val (.long bA), .second, .val (.long bB), .second, .val (.int ex), .val (.double scl), .second, .val (.double da), .second, .val (.double db), .second, .val (.double sm), .second, .val (.long ri), .second, .val (.long xe), .second, .val (.double want), .second, .val (.double got), .second]) rfl (q := 97) rfl ?_
  refine Go.dload X103.here hx (Jvm.hb hby at_97) rfl (q := 99) rfl ?_
  refine Go.dload X103.here hx (Jvm.hb hby at_99) rfl (q := 101) rfl ?_
  obtain ⟨u101, hu101⟩ : ∃ zq, cmpValue (FP.dcmp got want) .l = zq := ⟨_, rfl⟩
  refine Go.dcmp X103.here hx (Jvm.hb hby at_101) hu101 (q := 102) rfl ?_
  have hc102 : u101 = (0 : Int32) := by rw [← hu101]; have G2 := G1.2; rw [hgot] at G2; exact cmp_eq G2.1 W1.1 _ (G2.2.trans W1.2.symm)
  refine Go.ifN X103.here hx (Jvm.hb hby at_102) ((if0 _ _).trans (teq hc102).2) (q := 105) rfl ?_
  refine Go.iconst X103.here hx (Jvm.hb hby at_105) (v := (1 : Int32)) rfl (q := 106) rfl ?_
  refine Go.goto X103.here hx (Jvm.hb hby at_106) (by decide) (q := 110) rfl ?_
  refine Go.retZ X103 hx hret hlk (Jvm.hb hby at_110) (Or.inr rfl) (by decide) (by decide) ?_
  exact ⟨rfl, N103⟩
set_option maxRecDepth 65536 in
set_option maxHeartbeats 40000000 in
theorem comes_1 {Post : Tables → Env → Array Value → State → Outcome → State → Prop} (hpost : ∀ tb e args s v u, (limb_1_1.after args s (.returned v) u = true ∧ limb_1_2.after args s (.returned v) u = true ∧ True) → FrameEnd s (.returned v) u (Jvm.fieldLocs frame_1_writes args s ++ Jvm.arrayLocs frame_1_arrays args s ++ Jvm.staticLocs frame_1_statics s) 0 0 → Post tb e args s (.returned v) u) :
    ArmFor flags0 classFile x code maxLocals ret World_1 tables_1 room_1 Calls_1 rest_1 Pre_1 Post := by
  intro l hfl _ _ p e ha hc hk s m args below hf hA hF happ hP
  obtain ⟨hcalls, hrest, hpre⟩ := hP
  obtain ⟨-, -, -, hnamed, -, -, -, hat⟩ := (Spec.applies_iff hf).mp happ
  obtain ⟨hg, hn⟩ := and_e (Cond.before_iff.mp (show (Jvm.Cond.and given_1 narrow_1).before args s = true from hpre))
  obtain ⟨g0, hg⟩ := and_e hg
  obtain ⟨w0, w1, w2, w3, w4, rfl⟩ : ∃ w0 w1 w2 w3 w4 : Value, args = #[w0, w1, w2, w3, w4] := by
    have hs : args.size = 5 := by simpa [Cond.value, given_1] using g0
    obtain ⟨L⟩ := args
    match L, hs with
    | [w0, w1, w2, w3, w4], _ => exact ⟨w0, w1, w2, w3, w4, rfl⟩
  have hw := fun d (hd : d ∈ tables_1) => atoms_spec (ws := Jvm.Cond.code x code maxLocals ret :: tables_1) hat d (List.mem_cons_of_mem _ hd)
  obtain ⟨g1, hg⟩ := and_e hg
  obtain ⟨i0, e0⟩ := isL_v g1
  obtain rfl : w0 = (.long i0) := Option.some.inj e0
  obtain ⟨g2, hg⟩ := and_e hg
  obtain ⟨i1, e1⟩ := isL_v g2
  obtain rfl : w1 = (.long i1) := Option.some.inj e1
  obtain ⟨g3, hg⟩ := and_e hg
  obtain ⟨i2, e2⟩ := is_v g3
  obtain rfl : w2 = (.int i2) := Option.some.inj e2
  obtain ⟨g4, hg⟩ := and_e hg
  obtain ⟨i3, e3⟩ := is_v g4
  obtain rfl : w3 = (.int i3) := Option.some.inj e3
  obtain ⟨i4, e4⟩ := is_v hg
  obtain rfl : w4 = (.int i4) := Option.some.inj e4
  obtain ⟨n, o, h1, h2, h3, _, L, rfl, ⟨rfl, N⟩, hq⟩ := rm_law l s _ hw tables_1 i0 i1 i2 i3 i4  s.heap s.heap.size (Nat.le_refl _)  p e ha hc hk s m _ below hf ((Spec.applies_iff_loose hf).mp happ).1 ⟨rfl, State.Warmed39.refl s, rfl⟩ trivial
  refine ⟨n, _, h1, h2, h3, hpost _ _ _ _ _ _ ⟨Cond.after_iff.mpr rfl, Cond.after_iff.mpr (eq_i res_at (Term.int_eval (1)) rfl), trivial⟩ ⟨hq.1, hq.2.1, (hq.2.2.sift fun y hy => Or.inr (N y hy)).mono (by decide) (by decide)⟩⟩
theorem main_1_1 : Claimed_1_1 := comes_1 fun _ _ _ _ _ _ h hF => ⟨h.1, hF⟩
theorem main_1_2 : Claimed_1_2 := comes_1 fun _ _ _ _ _ _ h hF => ⟨h.2.1, hF⟩
end Jvm.Pilot.@@N@@
namespace Jvm.Pilot.@@N@@
open Jvm Jvm.ClassFile Sem Op Lib Jvm.Free Jvm.Stand Jvm.Pilot.@@N@@.Jvm.D
/-! MADE BY PROGRAM (witnessworld.py) out of the Statement's table words and the real class files: 9 classes; the members and pool entries that the words name. The judged class is class 1, her method 1. -/
namespace start1
open Jvm.ClassFile
def u (s : String) : CpInfo := .utf8 (stringToUtf16 s)
/-- a pool by its gaps: so many unusable entries, then the entry; so many at the end -/
def gap : Nat → List CpInfo → List CpInfo
  | 0, r => r
  | n + 1, r => .unusable :: gap n r
def poolList (es : List (Nat × CpInfo)) (last : Nat) : List CpInfo := es.foldr (fun e r => gap e.1 (e.2 :: r)) (gap last [])
def pool (es : List (Nat × CpInfo)) (last : Nat) : Array CpInfo := ⟨poolList es last⟩
def fileOf (pool : Array CpInfo) (this : Nat) (attrs : Array Attribute := #[]) (ms : Array MethodInfo := #[]) (fl : Nat := 33) (sup : Nat := 0) (ifs : Array Nat := #[]) (fds : Array FieldInfo := #[]) : ClassFile where
  minorVersion := 0
  majorVersion := 65
  constantPool := pool
  accessFlags := fl
  thisClass := this
  superClass := sup
  interfaces := ifs
  fields := fds
  methods := ms
  attributes := attrs
def plain (name : String) (sup : Option ClassId) : Class where
  name := name
  kind := .ordinary
  loader := none
  accessFlags := 33
  super := sup
  interfaces := #[]
  cf := none
  fields := #[]
  methods := #[]
  instanceTypes := #[]
  staticTypes := #[]
  resolved := #[]
  callSites := []
  init := .initialized
  statics := none
  mirror := none

def pool0 : Array CpInfo := pool [(5, u "<init>"), (0, u "()V"), (1, .class_ 10), (1, u "java/lang/Object")] 113

def k0m0 : Method := { name := "<init>", desc := "()V", sig := { parameters := [], returnType := none }, accessFlags := 1, code := none }
/-- java/lang/Object -/
def k0 : Class := { plain "java/lang/Object" none with
  accessFlags := 33
  interfaces := #[]
  cf := some (fileOf pool0 8 #[] #[{ accessFlags := 1, nameIndex := 5, descriptorIndex := 6, attributes := #[] }] 33 0 #[] #[])
  fields := #[]
  methods := #[k0m0]
  instanceTypes := #[]
  staticTypes := #[]
  resolved := Array.replicate 124 none
  statics := none }

def pool1 : Array CpInfo := pool [(2, .class_ 4), (1, u "java/lang/Object"), (0, u "<init>"), (0, u "()V"), (0, .methodref 8 9), (0, .class_ 10), (0, .nameAndType 11 12), (0, u "com/example/rank2/rank2/fusion/DoubleDoubleSumRoundingErrorPinLaw"), (0, u "part"), (0, u "(JI)J"), (0, .integer 2147483647), (0, .methodref 15 16), (0, .class_ 17), (0, .nameAndType 18 19), (0, u "com/example/rank2/rank2/fusion/DoubleDoubleSum"), (0, u "roundingError"), (0, u "(DDD)D"), (2, u "law"), (0, u "(JJIII)Z")] 3

def k1m0 : Method := { name := "<init>", desc := "()V", sig := { parameters := [], returnType := none }, accessFlags := 1, code := none }
def k1c1 : Code := { maxStack := 6, maxLocals := 28, code := code, exceptionTable := #[], attributes := #[] }
def k1m1 : Method := { name := "law", desc := "(JJIII)Z", sig := { parameters := [.long, .long, .int, .int, .int], returnType := some .boolean }, accessFlags := 9, code := some k1c1 }
def k1c2 : Code := { maxStack := 3, maxLocals := 5, code := method_3_code, exceptionTable := #[], attributes := #[] }
def k1m2 : Method := { name := "part", desc := "(JI)J", sig := { parameters := [.long, .int], returnType := some .long }, accessFlags := 10, code := some k1c2 }
/-- com/example/rank2/rank2/fusion/DoubleDoubleSumRoundingErrorPinLaw -/
def k1 : Class := { plain "com/example/rank2/rank2/fusion/DoubleDoubleSumRoundingErrorPinLaw" (some 0) with
  accessFlags := 49
  interfaces := #[]
  cf := some (fileOf pool1 8 #[] #[{ accessFlags := 1, nameIndex := 5, descriptorIndex := 6, attributes := #[] }, { accessFlags := 9, nameIndex := 22, descriptorIndex := 23, attributes := #[] }, { accessFlags := 10, nameIndex := 11, descriptorIndex := 12, attributes := #[] }] 49 2 #[] #[])
  fields := #[]
  methods := #[k1m0, k1m1, k1m2]
  instanceTypes := #[]
  staticTypes := #[]
  resolved := Array.replicate 27 none
  statics := none }

def pool2 : Array CpInfo := pool [(2, .class_ 4), (1, u "java/lang/Object"), (0, u "<init>"), (0, u "()V"), (6, .class_ 14), (0, u "com/example/rank2/rank2/fusion/DoubleDoubleSum"), (6, u "outOfRange"), (0, u "Z"), (3, u "(DDD)D"), (2, u "roundingError"), (2, u "bound"), (0, u "D"), (4, u "high"), (2, u "low"), (10, u "LEAST"), (1, u "MOST")] 11

def k2m0 : Method := { name := "<init>", desc := "()V", sig := { parameters := [], returnType := none }, accessFlags := 0, code := none }
def k2c1 : Code := { maxStack := 6, maxLocals := 10, code := prog_22_method_6_code, exceptionTable := #[], attributes := #[] }
def k2m1 : Method := { name := "roundingError", desc := "(DDD)D", sig := { parameters := [.double, .double, .double], returnType := some .double }, accessFlags := 8, code := some k2c1 }
/-- com/example/rank2/rank2/fusion/DoubleDoubleSum -/
def k2 : Class := { plain "com/example/rank2/rank2/fusion/DoubleDoubleSum" (some 0) with
  accessFlags := 32
  interfaces := #[]
  cf := some (fileOf pool2 13 #[] #[{ accessFlags := 0, nameIndex := 5, descriptorIndex := 6, attributes := #[] }, { accessFlags := 8, nameIndex := 29, descriptorIndex := 26, attributes := #[] }] 32 2 #[] #[{ accessFlags := 26, nameIndex := 52, descriptorIndex := 33, attributes := #[] }, { accessFlags := 26, nameIndex := 54, descriptorIndex := 33, attributes := #[] }, { accessFlags := 2, nameIndex := 38, descriptorIndex := 33, attributes := #[] }, { accessFlags := 2, nameIndex := 41, descriptorIndex := 33, attributes := #[] }, { accessFlags := 2, nameIndex := 32, descriptorIndex := 33, attributes := #[] }, { accessFlags := 2, nameIndex := 21, descriptorIndex := 22, attributes := #[] }])
  fields := #[{ name := "LEAST", type := .double, accessFlags := 26, slot := 0, constantValue := 0 }, { name := "MOST", type := .double, accessFlags := 26, slot := 1, constantValue := 0 }, { name := "high", type := .double, accessFlags := 2, slot := 0, constantValue := 0 }, { name := "low", type := .double, accessFlags := 2, slot := 1, constantValue := 0 }, { name := "bound", type := .double, accessFlags := 2, slot := 2, constantValue := 0 }, { name := "outOfRange", type := .boolean, accessFlags := 2, slot := 3, constantValue := 0 }]
  methods := #[k2m0, k2m1]
  instanceTypes := #[.double, .double, .double, .boolean]
  staticTypes := #[.double, .double]
  resolved := Array.replicate 66 none
  statics := none }

def pool3 : Array CpInfo := pool [(1, u "java/lang/Cloneable"), (0, .class_ 1), (0, u "java/lang/Object"), (0, .class_ 3)] 3

/-- java/lang/Cloneable -/
def k3 : Class := { plain "java/lang/Cloneable" (some 0) with
  accessFlags := 1537
  interfaces := #[]
  cf := some (fileOf pool3 2 #[] #[] 1537 4 #[] #[])
  fields := #[]
  methods := #[]
  instanceTypes := #[]
  staticTypes := #[]
  resolved := Array.replicate 8 none
  statics := none }

def pool4 : Array CpInfo := pool [(1, u "java/io/Serializable"), (0, .class_ 1), (0, u "java/lang/Object"), (0, .class_ 3)] 3

/-- java/io/Serializable -/
def k4 : Class := { plain "java/io/Serializable" (some 0) with
  accessFlags := 1537
  interfaces := #[]
  cf := some (fileOf pool4 2 #[] #[] 1537 4 #[] #[])
  fields := #[]
  methods := #[]
  instanceTypes := #[]
  staticTypes := #[]
  resolved := Array.replicate 8 none
  statics := none }

/-- the primitive byte -/
def k5 : Class := { plain "byte" none with kind := .primitive 'B', accessFlags := 0x411 }
/-- [B -/
def k6 : Class := { plain "[B" (some 0) with kind := .array 5 .byte, interfaces := #[3, 4], accessFlags := 1041 }

/-- the primitive int -/
def k7 : Class := { plain "int" none with kind := .primitive 'I', accessFlags := 0x411 }
/-- [I -/
def k8 : Class := { plain "[I" (some 0) with kind := .array 7 .int, interfaces := #[3, 4], accessFlags := 1041 }

def heap : Heap := #[]
def classes : Array Class := #[k0, k1, k2, k3, k4, k5, k6, k7, k8]
def interned : List (Array UInt16 × Addr) := []
def slotsUsed : Nat := 0
def theMethod : MethodId := ⟨1, 1⟩
def args0 : Array Value := #[.long 5000000, .long 7, .int 11, .int 3, .int 1]
def aboutOver (below : List Frame) : State where
  vm := { classes := classes, interned := interned.toArray }
  heap := heap
  slotsUsed := slotsUsed
  threads := #[{ frames := .invoking theMethod args0 :: below }]
def below0 : List Frame := [.native { method := ⟨0, 0⟩, args := #[] }]
def about1 : State := aboutOver below0
def p0 : Program := .bare "" "" ""
def e0 : Env := launch0.env 0 0 0
theorem w_frames : about1.frames = Frame.invoking theMethod args0 :: below0 := rfl
set_option maxRecDepth 65536 in
theorem w_args : argsFit about1.vm theMethod args0 = true := by decide +kernel
set_option maxRecDepth 65536 in
theorem w_heap : heapFits about1 = true := by decide +kernel
set_option maxRecDepth 65536 in
theorem w_runnable : about1.curStatus? = some .runnable := by decide +kernel
set_option maxRecDepth 65536 in
theorem w_alone : about1.alone = true := by decide +kernel
set_option maxRecDepth 65536 in
theorem w_named : about1.methodNamed? x = some theMethod := by decide +kernel
set_option maxRecDepth 65536 in
theorem w_hears : about1.hears theMethod below0 = true := by decide +kernel
set_option maxRecDepth 65536 in
theorem w_ripe : about1.ripe theMethod args0 below0 = true := by decide +kernel
theorem w_running : about1.status = .running := rfl
set_option maxRecDepth 65536 in
theorem w_room : about1.hasRoom e0.platform room_1 = true :=
  launch0.hasRoom_least _ room_1 (by decide +kernel) (by decide +kernel) (by decide +kernel) (by decide +kernel) (by decide +kernel) (by decide +kernel)
theorem allAtoms_all (ts : List Jvm.Cond) (a : Array Jvm.Value) (st : Jvm.State) : (allAtoms ts).before a st = ts.all (fun c => c.before a st) := by
  induction ts with
  | nil => rfl
  | cons c t ih =>
    show (Jvm.Cond.and c (allAtoms t)).before a st = _
    rw [Jvm.Cond.before_and, ih, List.all_cons]
def words1 : List Jvm.Cond := Jvm.Cond.code x code maxLocals ret :: tables_1
/-- a 'code' word, met by the world's own term for the bytes: nothing is compared byte by byte -/
theorem code_word {y : MethodName} {bytes : ByteArray} {mx : Nat} {rt : Option FieldType} {a : Array Value} {s : State} {m : MethodId} {meth : Method} {c : Code} (h1 : s.methodNamed? y = some m) (h2 : s.vm.method? m = some meth) (h3 : meth.code = some c) (h4 : c.code = bytes)
    (h5 : (c.maxLocals == mx && c.exceptionTable.isEmpty && decide (c.maxStack ≤ mostOperands) && decide (meth.sig.returnType = rt) && !meth.locks && decide (parseMethodDescriptor y.desc = some meth.sig)) = true) : (Jvm.Cond.code y bytes mx rt).before a s = true := by
  simp only [Bool.and_eq_true, beq_iff_eq, Bool.not_eq_true', decide_eq_true_eq] at h5
  obtain ⟨⟨⟨⟨⟨g1, g2⟩, g3⟩, g4⟩, g5⟩, g6⟩ := h5
  simp [Cond.before, Cond.holds, Cond.value, h1, h2, h3, h4, g1, g2, g3, g4, g5, g6]
def isCode : Jvm.Cond → Bool
  | .code _ _ _ _ => true
  | _ => false
theorem all_split {L : List Jvm.Cond} {P : Jvm.Cond → Bool} (h1 : L.all (fun c => isCode c || P c) = true) (h2 : ∀ c ∈ L.filter isCode, P c = true) : L.all P = true := by
  refine List.all_eq_true.mpr fun c hc => ?_
  have h := List.all_eq_true.mp h1 c hc
  rcases Bool.eq_false_or_eq_true (isCode c) with hi | hi
  · exact h2 c (List.mem_filter.mpr ⟨hc, hi⟩)
  · simpa [hi] using h
set_option maxRecDepth 65536 in
theorem w_c0 : (Jvm.Cond.code x code maxLocals ret).before args0 about1 = true := code_word (m := ⟨1, 1⟩) (meth := k1m1) (c := k1c1) (by decide +kernel) rfl rfl rfl (by decide +kernel)
set_option maxRecDepth 65536 in
theorem w_c1 : (Jvm.Cond.code ({ cls := "com/example/rank2/rank2/fusion/DoubleDoubleSumRoundingErrorPinLaw", name := "part", desc := "(JI)J" } : Jvm.MethodName) method_3_code (5 : Nat) (Option.some Jvm.ClassFile.FieldType.long)).before args0 about1 = true := code_word (m := ⟨1, 2⟩) (meth := k1m2) (c := k1c2) (by decide +kernel) rfl rfl rfl (by decide +kernel)
set_option maxRecDepth 65536 in
theorem w_c2 : (Jvm.Cond.code ({ cls := "com/example/rank2/rank2/fusion/DoubleDoubleSum", name := "roundingError", desc := "(DDD)D" } : Jvm.MethodName) prog_22_method_6_code (10 : Nat) (Option.some Jvm.ClassFile.FieldType.double)).before args0 about1 = true := code_word (m := ⟨2, 1⟩) (meth := k2m1) (c := k2c1) (by decide +kernel) rfl rfl rfl (by decide +kernel)
def codes1 : List Jvm.Cond := [Jvm.Cond.code x code maxLocals ret, Jvm.Cond.code ({ cls := "com/example/rank2/rank2/fusion/DoubleDoubleSumRoundingErrorPinLaw", name := "part", desc := "(JI)J" } : Jvm.MethodName) method_3_code (5 : Nat) (Option.some Jvm.ClassFile.FieldType.long), Jvm.Cond.code ({ cls := "com/example/rank2/rank2/fusion/DoubleDoubleSum", name := "roundingError", desc := "(DDD)D" } : Jvm.MethodName) prog_22_method_6_code (10 : Nat) (Option.some Jvm.ClassFile.FieldType.double)]
set_option maxRecDepth 65536 in
theorem codes_eq : words1.filter isCode = codes1 := rfl
theorem w_codes : ∀ c ∈ words1.filter isCode, c.before args0 about1 = true := by
  rw [codes_eq]
  intro c hc
  simp only [codes1, List.mem_cons, List.not_mem_nil, or_false] at hc
  rcases hc with rfl | rfl | rfl
  · exact w_c0
  · exact w_c1
  · exact w_c2
set_option maxRecDepth 65536 in
theorem w_t1 : words1.all (fun c => isCode c || c.before args0 about1) = true := by decide +kernel
theorem w_tables : (allAtoms (Jvm.Cond.code x code maxLocals ret :: tables_1)).before args0 about1 = true := by
  rw [allAtoms_all]
  show words1.all (fun c => c.before args0 about1) = true
  refine all_split ?_ w_codes
  rw [w_t1]
set_option maxRecDepth 65536 in
theorem w_case : (Jvm.Cond.and given_1 narrow_1).before args0 about1 = true := by decide +kernel
theorem w_applies : (headSpec (Jvm.Cond.code x code maxLocals ret :: tables_1) room_1).applies x e0.platform about1 = true :=
  (Spec.applies_iff w_frames).mpr ⟨w_running, w_runnable, w_alone, w_named, w_hears, w_ripe, w_room, w_tables⟩
theorem atStart : AtStart classFile x code maxLocals ret World_1 tables_1 room_1 Calls_1 rest_1 Pre_1 launch0 p0 e0 about1 theMethod args0 below0 :=
  ⟨lists_1, trivial, launch0.admits_env _ _ _, launch0.least_env, fairChoices_fair.cas, fairChoices_fair.clock, w_frames, w_args, w_heap, w_applies, trivial, trivial, w_case⟩
end start1
theorem witness_1 : WitnessClaimed_1 := ⟨start1.p0, start1.e0, start1.about1, start1.theMethod, start1.args0, start1.below0, start1.atStart⟩
end Jvm.Pilot.@@N@@
