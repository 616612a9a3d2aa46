import JvmDerived
import JvmDerived.Pilot.@@N@@Statement
import JvmDerived.Pilot.@@N@@Code
set_option linter.unusedVariables false
set_option linter.unusedSimpArgs false
namespace Jvm.RoadKit
open Sem ClassFile Op Lib Jvm.Stand Jvm.Free Jvm.LawKit
section New
variable {p : Program} {l : Launch} {e : Env} {R : Room} {s : State} {m : MethodId} {args : Array Value} {below : List Frame} {meth : Method} {c : Code} {T : State} {locs : List Loc} {cells slots : Nat}
theorem retI (X : Stand p l e R s m args below meth c T locs cells slots) (hx : p.tables.exec = Jvm.exec) {pc : Nat} {Ls : Array Slot} {z : Int32} {rest : List Value} (hret : meth.sig.returnType = some .int) (hd : decode c.code pc = .ok (.ireturn, 1)) {fs : List Frame}
    (hl : ∀ (f : JFrame) (acts : List Action), f.method = m → f.locked = none → f.entered = [] → (doReturn e (T.setTop f) acts (some (.int z))).1 = T.setFrames fs) : Steps p.tables e below (T.setTop (mkF m pc Ls (.int z :: rest))) (T.setFrames fs) := by
  have hm' : T.vm.method? m = some meth := X.method'
  have hn : narrow .int (.int z) = .int z := rfl
  show Steps p.tables e below (T.setTop { method := m, pc := pc, locals := Ls, stack := _ :: rest, locked := none }) _
  jvm_step X.here [X.here.top, hx, hd, hm', hret, hn]
  first | (intro acts; rw [hl _ acts rfl rfl rfl]) | rw [hl _ _ rfl rfl rfl]
  exact Steps.refl _
end New
end Jvm.RoadKit
namespace Jvm.Pilot.@@N@@
section OwnFl
open Jvm.FP.Core
/-- a double's value in units of 2^-1074 -/
def own_z (a : UInt64) : Int := zval b64 (val64 a)
theorem own_signed (N : Int) : signed (decide (N < 0)) N.natAbs = N := by
  unfold signed
  by_cases h : N < 0
  · simp only [h, decide_true, if_true]; omega
  · simp only [h, decide_false, Bool.false_eq_true, if_false]; omega
theorem own_qmax : b64.qmax = 971 := by decide
theorem own_p : b64.p = 53 := rfl
theorem own_rep {N : Int} {j : Nat} (hN : N.natAbs < 2 ^ 53) (hj : j ≤ 2045) :
    ∃ V : Datum, Jvm.FP.Core.fits b64 V ∧ V ≠ .nan ∧ (∀ s, V ≠ .inf s) ∧ zval b64 V = N * ((2 ^ j : Nat) : Int) := by
  obtain ⟨c', q', h1, h2⟩ := round_exact good_b64 (decide (N < 0)) (c := N.natAbs) (q := (j : Int) - 1074) hN (by rw [qmin_b64]; omega) (by rw [own_qmax]; omega)
  refine ⟨.fin (decide (N < 0)) c' q', h1 ▸ round_fits good_b64 _, by simp, by simp, ?_⟩
  show signed (decide (N < 0)) (inUnits c' q' b64.qmin) = _
  rw [h2]
  unfold inUnits
  rw [qmin_b64, signed_mul, own_signed, show ((j : Int) - 1074 - -1074).toNat = j by omega]
theorem own_top {V : Datum} (h1 : Jvm.FP.Core.fits b64 V) (h2 : V ≠ .nan) (h3 : ∀ s, V ≠ .inf s) : zmag b64 V < b64.tails * 2 ^ (b64.exps - 2) := by
  cases V with
  | nan => exact absurd rfl h2
  | inf s => exact absurd rfl (h3 s)
  | fin s c q => exact zmag_lt_top good_b64 h1
theorem own_zabs (d : Datum) : (zval b64 d).natAbs = zmag b64 d := natAbs_signed _ _
theorem own_fin {a : UInt64} (hn : val64 a ≠ .nan) {N : Int} {j : Nat} (hN : N.natAbs < 2 ^ 53) (hj : j ≤ 2045)
    (h1 : -(N * ((2 ^ j : Nat) : Int)) ≤ own_z a) (h2 : own_z a ≤ N * ((2 ^ j : Nat) : Int)) : DFin a := by
  obtain ⟨V, f1, f2, f3, f4⟩ := own_rep hN hj
  have t := own_top f1 f2 f3
  rw [← f4] at h1 h2
  have e1 := own_zabs V
  have e2 := own_zabs (val64 a)
  have e3 : own_z a = zval b64 (val64 a) := rfl
  cases hd : val64 a with
  | nan => exact absurd hd hn
  | inf s =>
    rw [hd] at e2 e3
    have e4 : zmag b64 (.inf s) = b64.tails * 2 ^ (b64.exps - 2) := rfl
    rw [e4] at e2
    generalize b64.tails * 2 ^ (b64.exps - 2) = X at *
    omega
  | fin s c q => exact ⟨s, c, q, hd⟩
theorem own_nn {a : UInt64} (h : DFin a) : Jvm.Free.Fl.NoNaN64 a := (Jvm.Free.Fl.fin64_core.mpr h).noNaN
theorem own_z_neg (a : UInt64) : own_z (Jvm.FP.dneg a) = -own_z a := by
  unfold own_z
  rw [Jvm.FP.val64_dneg, zval_negate]
theorem own_fin_neg {a : UInt64} (h : DFin a) : DFin (Jvm.FP.dneg a) := by
  obtain ⟨s, c, q, h⟩ := h
  exact ⟨!s, c, q, by rw [Jvm.FP.val64_dneg, h]; rfl⟩
-- sums
theorem own_add_nn {a b : UInt64} (ha : DFin a) (hb : DFin b) : val64 (Jvm.FP.dadd a b) ≠ .nan := (notNaN_iff _).mp (dadd_out ha.notNaN hb)
theorem own_add_le {a b : UInt64} (ha : DFin a) (hb : DFin b) {N : Int} {j : Nat} (hN : N.natAbs < 2 ^ 53) (hj : j ≤ 2045)
    (h : own_z a + own_z b ≤ N * ((2 ^ j : Nat) : Int)) : own_z (Jvm.FP.dadd a b) ≤ N * ((2 ^ j : Nat) : Int) := by
  obtain ⟨V, f1, f2, -, f4⟩ := own_rep hN hj
  have q := sum_le good_b64 ha hb (val64_fits a) (val64_fits b) f1 f2 (by rw [f4]; exact h)
  rw [f4, ← val64_dadd] at q
  exact q
theorem own_add_ge {a b : UInt64} (ha : DFin a) (hb : DFin b) {N : Int} {j : Nat} (hN : N.natAbs < 2 ^ 53) (hj : j ≤ 2045)
    (h : N * ((2 ^ j : Nat) : Int) ≤ own_z a + own_z b) : N * ((2 ^ j : Nat) : Int) ≤ own_z (Jvm.FP.dadd a b) := by
  obtain ⟨V, f1, f2, -, f4⟩ := own_rep hN hj
  have q := sum_ge good_b64 ha hb (val64_fits a) (val64_fits b) f1 f2 (by rw [f4]; exact h)
  rw [f4, ← val64_dadd] at q
  exact q
theorem own_fin_abs {a : UInt64} (hn : val64 a ≠ .nan) {N : Int} {j : Nat} (hN : N.natAbs < 2 ^ 53) (hj : j ≤ 2045) (h : own_z a = N * ((2 ^ j : Nat) : Int)) : DFin a := by
  have p : (0 : Int) ≤ ((2 ^ j : Nat) : Int) := Int.natCast_nonneg _
  by_cases s : 0 ≤ N
  · have := Int.mul_nonneg s p
    exact own_fin hn hN hj (by omega) (by omega)
  · have q := Int.mul_nonneg (show (0 : Int) ≤ -N by omega) p
    rw [Int.neg_mul] at q
    refine own_fin hn (N := -N) (j := j) (by omega) hj ?_ ?_ <;> rw [Int.neg_mul] <;> omega
theorem own_add {a b : UInt64} (ha : DFin a) (hb : DFin b) {N : Int} {j : Nat} (hN : N.natAbs < 2 ^ 53) (hj : j ≤ 2045)
    (h : own_z a + own_z b = N * ((2 ^ j : Nat) : Int)) : DFin (Jvm.FP.dadd a b) ∧ own_z (Jvm.FP.dadd a b) = N * ((2 ^ j : Nat) : Int) := by
  have q : own_z (Jvm.FP.dadd a b) = N * ((2 ^ j : Nat) : Int) := by
    have h1 := own_add_le ha hb hN hj (Int.le_of_eq h)
    have h2 := own_add_ge ha hb hN hj (Int.le_of_eq h.symm)
    omega
  exact ⟨own_fin_abs (own_add_nn ha hb) hN hj q, q⟩
theorem own_sub_eq {a b : UInt64} (hb : DFin b) : Jvm.FP.dsub a b = Jvm.FP.dadd a (Jvm.FP.dneg b) := by
  rw [Jvm.FP.dneg_core hb.notNaN]; exact dsub_eq a b
theorem own_sum_val {a b : UInt64} (ha : DFin a) (hb : DFin b) (hz : own_z a + own_z b ≠ 0) :
    val64 (Jvm.FP.dadd a b) = roundRatio b64 (decide (own_z a + own_z b < 0)) (own_z a + own_z b).natAbs 1 (-1074) := by
  have fa := val64_fits a
  have fb := val64_fits b
  have za : own_z a = zval b64 (val64 a) := rfl
  have zb : own_z b = zval b64 (val64 b) := rfl
  obtain ⟨s, c, q, ea⟩ := ha
  obtain ⟨t, d, r, eb⟩ := hb
  rw [show val64 (Jvm.FP.dadd a b) = _ from val64_dadd a b, ea, eb]
  rw [ea] at fa za
  rw [eb] at fb zb
  obtain ⟨sg, n, e, h1, h2, h3⟩ := sum_units fa fb
  rw [← za, ← zb] at h3
  rw [h1]
  show roundRatio b64 sg n 1 e = _
  rw [qmin_b64] at h2
  have hn : inUnits n e b64.qmin = (own_z a + own_z b).natAbs := by rw [← h3, natAbs_signed]
  have hs : sg = decide (own_z a + own_z b < 0) := by
    have hp : 0 < inUnits n e b64.qmin := by omega
    rw [← h3]; exact (signed_lt_zero sg hp).symm
  rw [← hs]
  refine roundRatio_congr (by decide) (by decide) ?_
  rw [← hn]
  unfold inUnits
  rw [qmin_b64, show (-1074 - e).toNat = 0 by omega, Nat.pow_zero, Nat.mul_one, Nat.mul_one, Nat.mul_one]
theorem own_sum_same {a b a' b' : UInt64} (ha : DFin a) (hb : DFin b) (ha' : DFin a') (hb' : DFin b') (h : own_z a + own_z b = own_z a' + own_z b') (hz : own_z a + own_z b ≠ 0) : Jvm.FP.dadd a b = Jvm.FP.dadd a' b' := by
  refine val64_inj (own_add_nn ha hb) ?_
  rw [own_sum_val ha hb hz, own_sum_val ha' hb' (by rw [← h]; exact hz), h]
theorem own_sub_same {a b a' : UInt64} (ha : DFin a) (hb : DFin b) (ha' : DFin a') (h : own_z a = own_z a') (hz : own_z a ≠ own_z b) : Jvm.FP.dsub a b = Jvm.FP.dsub a' b := by
  rw [own_sub_eq hb, own_sub_eq hb]
  exact own_sum_same ha (own_fin_neg hb) ha' (own_fin_neg hb) (by rw [h]) (by rw [own_z_neg]; omega)
-- products
theorem own_mul_nn {a b : UInt64} (ha : DFin a) (hb : DFin b) : val64 (Jvm.FP.dmul a b) ≠ .nan := (notNaN_iff _).mp (dmul_out ha hb)
theorem own_mul {a b : UInt64} (ha : DFin a) (hb : DFin b) {N : Int} {j : Nat} (hN : N.natAbs < 2 ^ 53) (hj : j ≤ 2045)
    (h : own_z a * own_z b = N * ((2 ^ j : Nat) : Int) * ((2 ^ 1074 : Nat) : Int)) : DFin (Jvm.FP.dmul a b) ∧ own_z (Jvm.FP.dmul a b) = N * ((2 ^ j : Nat) : Int) := by
  have q : own_z (Jvm.FP.dmul a b) = N * ((2 ^ j : Nat) : Int) := by
    obtain ⟨V, f1, f2, -, f4⟩ := own_rep hN hj
    have fa := val64_fits a
    have fb := val64_fits b
    obtain ⟨s, c, q, ea⟩ := ha
    obtain ⟨t, d, r, eb⟩ := hb
    unfold own_z at h ⊢
    rw [ea] at fa
    rw [eb] at fb
    rw [val64_dmul, ea, eb]
    rw [ea, eb] at h
    obtain ⟨u1, u2, u3⟩ := product_units fa fb
    rw [u1]
    have e : signed (s != t) (inUnits (c * d) (q + r) (2 * b64.qmin)) = zval b64 (.fin s c q) * zval b64 (.fin t d r) := by
      rw [u3]; exact signed_xor s t _ _
    have k : (b64.qmin - 2 * b64.qmin).toNat = 1074 := by rw [qmin_b64]; decide
    have w1 := zval_round_le good_b64 f1 f2 (e0 := 2 * b64.qmin) (by rw [qmin_b64]; decide) u2 (by rw [e, h, f4, k]; exact Int.le_refl _)
    have w2 := zval_round_ge good_b64 f1 f2 (e0 := 2 * b64.qmin) (by rw [qmin_b64]; decide) u2 (by rw [e, h, f4, k]; exact Int.le_refl _)
    rw [f4] at w1 w2
    exact Int.le_antisymm w1 w2
  exact ⟨own_fin_abs (own_mul_nn ha hb) hN hj q, q⟩
-- quotients by a positive number
theorem own_div_val {a b : UInt64} (ha : DFin a) (hb : DFin b) (hz : own_z b ≠ 0) :
    val64 (Jvm.FP.ddiv a b) = roundRatio b64 (sgn (val64 a) != sgn (val64 b)) (own_z a).natAbs (own_z b).natAbs 0 := by
  have fa := val64_fits a
  have fb := val64_fits b
  have ea' : (own_z a).natAbs = zmag b64 (val64 a) := own_zabs _
  have eb' : (own_z b).natAbs = zmag b64 (val64 b) := own_zabs _
  have hz' : zmag b64 (val64 b) ≠ 0 := by omega
  rw [ea', eb', show val64 (Jvm.FP.ddiv a b) = _ from val64_ddiv a b]
  obtain ⟨s, c, q, ea⟩ := ha
  obtain ⟨t, d, r, eb⟩ := hb
  rw [ea] at fa ⊢
  rw [eb] at fb hz' ⊢
  have q1 := fa.2.1
  have r1 := fb.2.1
  have hz2 : inUnits d r b64.qmin ≠ 0 := hz'
  unfold inUnits at hz2
  have hd : d ≠ 0 := fun z => hz2 (by rw [z, Nat.zero_mul])
  show (if d = 0 then _ else roundRatio b64 (s != t) c d (q - r)) = roundRatio b64 (s != t) (inUnits c q b64.qmin) (inUnits d r b64.qmin) 0
  rw [if_neg hd]
  refine roundRatio_congr (Nat.pos_of_ne_zero hd) (Nat.pos_of_ne_zero hz') ?_
  unfold inUnits
  rw [qmin_b64] at *
  have e1 : (q - r - 0).toNat + (r - -1074).toNat = (q - -1074).toNat + (0 - (q - r)).toNat := by omega
  calc c * (d * 2 ^ (r - -1074).toNat) * 2 ^ (q - r - 0).toNat = c * d * 2 ^ ((q - r - 0).toNat + (r - -1074).toNat) := by rw [Nat.pow_add]; ac_rfl
    _ = c * d * 2 ^ ((q - -1074).toNat + (0 - (q - r)).toNat) := by rw [e1]
    _ = c * 2 ^ (q - -1074).toNat * d * 2 ^ (0 - (q - r)).toNat := by rw [Nat.pow_add]; ac_rfl
theorem own_sgn_pos {a : UInt64} (h : 0 < own_z a) : sgn (val64 a) = false := by
  cases e : sgn (val64 a) with
  | false => rfl
  | true =>
    have : own_z a = -((zmag b64 (val64 a) : Nat) : Int) := by unfold own_z zval; rw [e]; rfl
    omega
theorem own_sgn_neg {a : UInt64} (h : own_z a < 0) : sgn (val64 a) = true := by
  cases e : sgn (val64 a) with
  | true => rfl
  | false =>
    have : own_z a = ((zmag b64 (val64 a) : Nat) : Int) := by unfold own_z zval; rw [e]; rfl
    omega
theorem own_div_z {a b : UInt64} (ha : DFin a) (hb : DFin b) (hz : 0 < own_z b) :
    own_z (Jvm.FP.ddiv a b) = signed (sgn (val64 a)) (zmag b64 (roundRatio b64 (sgn (val64 a)) (own_z a).natAbs (own_z b).natAbs 0)) := by
  unfold own_z zval
  have q := own_div_val ha hb (by omega)
  rw [own_sgn_pos hz, Bool.bne_false] at q
  unfold own_z at q
  rw [q, sgn_roundRatio]
  rfl
theorem own_div_nn {a b : UInt64} (ha : DFin a) (hb : DFin b) (hz : own_z b ≠ 0) : val64 (Jvm.FP.ddiv a b) ≠ .nan := by
  rw [own_div_val ha hb hz]; exact roundRatio_ne_nan _ _ _ _ _
theorem own_rr_le {s : Bool} {A B : Nat} (hB : 0 < B) {N : Int} {j : Nat} (hN : N.natAbs < 2 ^ 53) (hj : j ≤ 2045) (h : A * 2 ^ 1074 ≤ N.natAbs * 2 ^ j * B) :
    zmag b64 (roundRatio b64 s A B 0) ≤ N.natAbs * 2 ^ j := by
  obtain ⟨V, f1, f2, -, f4⟩ := own_rep hN hj
  have e : zmag b64 V = N.natAbs * 2 ^ j := by rw [← own_zabs, f4, Int.natAbs_mul, Int.natAbs_natCast]
  have q := zmag_roundRatio_le good_b64 (s := s) (A := A) (B := B) (e := 0) (e0 := b64.qmin) hB f1 f2 (Int.le_refl _) (by rw [qmin_b64]; decide)
    (by unfold inUnits; rw [e, Int.sub_self, qmin_b64, show ((0 : Int) - -1074).toNat = 1074 from rfl, show (0 : Int).toNat = 0 from rfl, Nat.pow_zero, Nat.mul_one]; exact h)
  rw [e] at q; exact q
theorem own_rr_ge {s : Bool} {A B : Nat} (hB : 0 < B) {N : Int} {j : Nat} (hN : N.natAbs < 2 ^ 53) (hj : j ≤ 2045) (h : N.natAbs * 2 ^ j * B ≤ A * 2 ^ 1074) :
    N.natAbs * 2 ^ j ≤ zmag b64 (roundRatio b64 s A B 0) := by
  obtain ⟨V, f1, f2, -, f4⟩ := own_rep hN hj
  have e : zmag b64 V = N.natAbs * 2 ^ j := by rw [← own_zabs, f4, Int.natAbs_mul, Int.natAbs_natCast]
  have q := zmag_roundRatio_ge good_b64 (s := s) (A := A) (B := B) (e := 0) (e0 := b64.qmin) hB f1 (Int.le_refl _) (by rw [qmin_b64]; decide)
    (by unfold inUnits; rw [e, Int.sub_self, qmin_b64, show ((0 : Int) - -1074).toNat = 1074 from rfl, show (0 : Int).toNat = 0 from rfl, Nat.pow_zero, Nat.mul_one]; exact h)
  rw [e] at q; exact q
theorem own_cast_le {A B N : Nat} {j k : Nat} (h : (A : Int) * ((2 ^ k : Nat) : Int) ≤ (N : Int) * ((2 ^ j : Nat) : Int) * (B : Int)) : A * 2 ^ k ≤ N * 2 ^ j * B := by
  rw [← Int.natCast_mul, ← Int.natCast_mul, ← Int.natCast_mul] at h
  exact Int.ofNat_le.mp h
theorem own_cast_ge {A B N : Nat} {j k : Nat} (h : (N : Int) * ((2 ^ j : Nat) : Int) * (B : Int) ≤ (A : Int) * ((2 ^ k : Nat) : Int)) : N * 2 ^ j * B ≤ A * 2 ^ k := by
  rw [← Int.natCast_mul, ← Int.natCast_mul, ← Int.natCast_mul] at h
  exact Int.ofNat_le.mp h
theorem own_div_le {a b : UInt64} (ha : DFin a) (hb : DFin b) (hz : 0 < own_z b) {N : Int} {j : Nat} (hN : N.natAbs < 2 ^ 53) (hj : j ≤ 2045)
    (h : own_z a * ((2 ^ 1074 : Nat) : Int) ≤ N * ((2 ^ j : Nat) : Int) * own_z b) : own_z (Jvm.FP.ddiv a b) ≤ N * ((2 ^ j : Nat) : Int) := by
  rw [own_div_z ha hb hz]
  have p : (0 : Int) < ((2 ^ j : Nat) : Int) := by exact_mod_cast Nat.two_pow_pos j
  have p2 : (0 : Int) < ((2 ^ 1074 : Nat) : Int) := by exact_mod_cast Nat.two_pow_pos 1074
  have hB : 0 < (own_z b).natAbs := by omega
  have eb : ((own_z b).natAbs : Int) = own_z b := by omega
  by_cases s : 0 ≤ N
  · have q := Int.mul_nonneg s (Int.le_of_lt p)
    have eN : (N.natAbs : Int) = N := by omega
    cases e : sgn (val64 a) with
    | true =>
      show -((_ : Nat) : Int) ≤ _
      omega
    | false =>
      have ez : own_z a = ((own_z a).natAbs : Int) := by
        have : own_z a = ((zmag b64 (val64 a) : Nat) : Int) := by unfold own_z zval; rw [e]; rfl
        omega
      have r := own_rr_le (s := false) (A := (own_z a).natAbs) hB hN hj (own_cast_le (by rw [eb, eN, ← ez]; exact h))
      show ((_ : Nat) : Int) ≤ _
      have r2 := Int.ofNat_le.mpr r
      rw [Int.natCast_mul, eN] at r2
      exact r2
  · have nb : own_z a < 0 := by
      refine Int.lt_of_not_ge fun g => ?_
      have g1 := Int.mul_nonneg g (Int.le_of_lt p2)
      have g2 := Int.mul_pos (Int.mul_pos (show (0 : Int) < -N by omega) p) hz
      rw [Int.neg_mul, Int.neg_mul] at g2
      omega
    rw [own_sgn_neg nb]
    show -((_ : Nat) : Int) ≤ _
    have eN : (N.natAbs : Int) = -N := by omega
    have ez : ((own_z a).natAbs : Int) = -own_z a := by omega
    have r := own_rr_ge (s := true) (A := (own_z a).natAbs) hB hN hj (own_cast_ge (by rw [eb, eN, ez, Int.neg_mul, Int.neg_mul, Int.neg_mul]; omega))
    have r2 := Int.ofNat_le.mpr r
    rw [Int.natCast_mul, eN, Int.neg_mul] at r2
    omega
theorem own_div_ge {a b : UInt64} (ha : DFin a) (hb : DFin b) (hz : 0 < own_z b) {N : Int} {j : Nat} (hN : N.natAbs < 2 ^ 53) (hj : j ≤ 2045)
    (h : N * ((2 ^ j : Nat) : Int) * own_z b ≤ own_z a * ((2 ^ 1074 : Nat) : Int)) : N * ((2 ^ j : Nat) : Int) ≤ own_z (Jvm.FP.ddiv a b) := by
  have q := own_div_le (own_fin_neg ha) hb hz (N := -N) (j := j) (by omega) hj (by rw [own_z_neg, Int.neg_mul, Int.neg_mul, Int.neg_mul]; omega)
  have e : own_z (Jvm.FP.ddiv (Jvm.FP.dneg a) b) = -own_z (Jvm.FP.ddiv a b) := by
    unfold own_z
    rw [show val64 (Jvm.FP.ddiv (Jvm.FP.dneg a) b) = _ from val64_ddiv _ b, Jvm.FP.val64_dneg, quotient_negate, zval_negate, show val64 (Jvm.FP.ddiv a b) = _ from val64_ddiv a b]
  rw [e, Int.neg_mul] at q
  omega
theorem own_div {a b : UInt64} (ha : DFin a) (hb : DFin b) (hz : 0 < own_z b) {N : Int} {j : Nat} (hN : N.natAbs < 2 ^ 53) (hj : j ≤ 2045)
    (h : own_z a * ((2 ^ 1074 : Nat) : Int) = N * ((2 ^ j : Nat) : Int) * own_z b) : DFin (Jvm.FP.ddiv a b) ∧ own_z (Jvm.FP.ddiv a b) = N * ((2 ^ j : Nat) : Int) := by
  have q : own_z (Jvm.FP.ddiv a b) = N * ((2 ^ j : Nat) : Int) :=
    Int.le_antisymm (own_div_le ha hb hz hN hj (Int.le_of_eq h)) (own_div_ge ha hb hz hN hj (Int.le_of_eq h.symm))
  exact ⟨own_fin_abs (own_div_nn ha hb (by omega)) hN hj q, q⟩
theorem own_div_same {a b a' b' : UInt64} (ha : DFin a) (hb : DFin b) (ha' : DFin a') (hb' : DFin b') (pa : 0 < own_z a) (pb : 0 < own_z b) (pa' : 0 < own_z a') (pb' : 0 < own_z b')
    (h : own_z a * own_z b' = own_z a' * own_z b) : Jvm.FP.ddiv a b = Jvm.FP.ddiv a' b' := by
  refine val64_inj (own_div_nn ha hb (by omega)) ?_
  rw [own_div_val ha hb (by omega), own_div_val ha' hb' (by omega), own_sgn_pos pa, own_sgn_pos pb, own_sgn_pos pa', own_sgn_pos pb']
  refine roundRatio_congr (by omega) (by omega) ?_
  rw [show ((0 : Int) - 0).toNat = 0 from rfl, Nat.pow_zero, Nat.mul_one, Nat.mul_one, ← Int.natAbs_mul, ← Int.natAbs_mul, h]
-- comparison
theorem own_cmp {a b : UInt64} (ha : val64 a ≠ .nan) (hb : val64 b ≠ .nan) : Jvm.FP.dcmp a b = some (compare (own_z a) (own_z b)) := dcmp_zval ha hb
theorem own_cmp_int {a b : UInt64} (ha : val64 a ≠ .nan) (hb : val64 b ≠ .nan) (o : Jvm.ClassFile.CmpOp) :
    Jvm.Op.cmpValue (Jvm.FP.dcmp a b) o = if own_z a < own_z b then -1 else if own_z a = own_z b then 0 else 1 := by
  rw [own_cmp ha hb, compare_ite]
  by_cases h : own_z a < own_z b
  · rw [if_pos h, if_pos h]; cases o <;> rfl
  · rw [if_neg h, if_neg h]
    by_cases h2 : own_z a = own_z b
    · rw [if_pos h2, if_pos h2]; cases o <;> rfl
    · rw [if_neg h2, if_neg h2]; cases o <;> rfl
-- whole numbers
theorem own_z_l2d {i : Int64} (h : i.toInt.natAbs ≤ 2 ^ 53) : own_z (Jvm.FP.l2d i) = i.toInt * ((2 ^ 1074 : Nat) : Int) := DInt_zval (l2d_int h)
theorem own_z_i2d (i : Int32) : own_z (Jvm.FP.i2d i) = i.toInt * ((2 ^ 1074 : Nat) : Int) := DInt_zval (i2d_int i)
theorem own_fin_l2d (i : Int64) : DFin (Jvm.FP.l2d i) := l2d_fin i
theorem own_fin_i2d (i : Int32) : DFin (Jvm.FP.i2d i) := i2d_fin i
-- n / 2^k
def Dy (n : Int) (k : Nat) (a : UInt64) : Prop := DFin a ∧ own_z a = n * ((2 ^ (1074 - k) : Nat) : Int)
theorem Dy.fin {n : Int} {k : Nat} {a : UInt64} (h : Dy n k a) : DFin a := h.1
theorem Dy.nn {n : Int} {k : Nat} {a : UInt64} (h : Dy n k a) : Jvm.Free.Fl.NoNaN64 a := own_nn h.1
theorem Dy.i2d (i : Int32) : Dy i.toInt 0 (Jvm.FP.i2d i) := ⟨own_fin_i2d i, own_z_i2d i⟩
theorem Dy.l2d {i : Int64} (h : i.toInt.natAbs ≤ 2 ^ 53) : Dy i.toInt 0 (Jvm.FP.l2d i) := ⟨own_fin_l2d i, own_z_l2d h⟩
theorem Dy.add {n m : Int} {k : Nat} {a b : UInt64} (ha : Dy n k a) (hb : Dy m k b) (h : (n + m).natAbs < 2 ^ 53) : Dy (n + m) k (Jvm.FP.dadd a b) :=
  own_add ha.1 hb.1 h (by omega) (by rw [ha.2, hb.2, Int.add_mul])
theorem Dy.neg {n : Int} {k : Nat} {a : UInt64} (ha : Dy n k a) : Dy (-n) k (Jvm.FP.dneg a) := ⟨own_fin_neg ha.1, by rw [own_z_neg, ha.2, Int.neg_mul]⟩
theorem Dy.sub {n m : Int} {k : Nat} {a b : UInt64} (ha : Dy n k a) (hb : Dy m k b) (h : (n - m).natAbs < 2 ^ 53) : Dy (n - m) k (Jvm.FP.dsub a b) := by
  rw [own_sub_eq hb.1]; exact Dy.add ha hb.neg (by rw [← Int.sub_eq_add_neg]; exact h)
theorem own_pow {k : Nat} (h : k ≤ 1074) : ((2 ^ (1074 - k) : Nat) : Int) * ((2 ^ k : Nat) : Int) = ((2 ^ 1074 : Nat) : Int) := by
  rw [← Int.natCast_mul, ← Nat.pow_add, Nat.sub_add_cancel h]
theorem own_pow_pos (k : Nat) : (0 : Int) < ((2 ^ k : Nat) : Int) := by exact_mod_cast Nat.two_pow_pos k
theorem Dy.conv {n m : Int} {k l : Nat} {a : UInt64} (ha : Dy n k a) (hk : k ≤ 1074) (hl : l ≤ 1074) (h : n * ((2 ^ l : Nat) : Int) = m * ((2 ^ k : Nat) : Int)) : Dy m l a := by
  refine ⟨ha.1, ?_⟩
  have e1 := own_pow hk
  have e2 := own_pow hl
  have p1 := own_pow_pos k
  have p2 := own_pow_pos l
  rw [ha.2]
  generalize ((2 ^ (1074 - k) : Nat) : Int) = A at *
  generalize ((2 ^ (1074 - l) : Nat) : Int) = B at *
  generalize ((2 ^ k : Nat) : Int) = K at *
  generalize ((2 ^ l : Nat) : Int) = L at *
  refine Int.eq_of_mul_eq_mul_right (Int.ne_of_gt (Int.mul_pos p1 p2)) ?_
  calc n * A * (K * L) = n * L * (A * K) := by ac_rfl
    _ = m * K * (B * L) := by rw [h, e1, e2]
    _ = m * B * (K * L) := by ac_rfl
theorem Dy.mul {n m : Int} {k l : Nat} {a b : UInt64} (ha : Dy n k a) (hb : Dy m l b) (hk : k + l ≤ 1074) (h : (n * m).natAbs < 2 ^ 53) : Dy (n * m) (k + l) (Jvm.FP.dmul a b) := by
  refine own_mul ha.1 hb.1 h (by omega) ?_
  rw [ha.2, hb.2]
  have e1 : ((2 ^ (1074 - k) : Nat) : Int) * ((2 ^ (1074 - l) : Nat) : Int) = ((2 ^ (1074 - (k + l)) : Nat) : Int) * ((2 ^ 1074 : Nat) : Int) := by
    rw [← Int.natCast_mul, ← Int.natCast_mul, ← Nat.pow_add, ← Nat.pow_add]
    congr 2; omega
  generalize ((2 ^ (1074 - k) : Nat) : Int) = A at *
  generalize ((2 ^ (1074 - l) : Nat) : Int) = B at *
  generalize ((2 ^ (1074 - (k + l)) : Nat) : Int) = C at *
  generalize ((2 ^ 1074 : Nat) : Int) = O at *
  calc n * A * (m * B) = n * m * (A * B) := by ac_rfl
    _ = n * m * C * O := by rw [e1]; ac_rfl
theorem Dy.mulx {n m N : Int} {k l r : Nat} {a b : UInt64} (ha : Dy n k a) (hb : Dy m l b) (hk : k ≤ 1074) (hl : l ≤ 1074) (hr : r ≤ 1074)
    (h : n * m * ((2 ^ r : Nat) : Int) = N * ((2 ^ k : Nat) : Int) * ((2 ^ l : Nat) : Int)) (hN : N.natAbs < 2 ^ 53) : Dy N r (Jvm.FP.dmul a b) := by
  refine own_mul ha.1 hb.1 hN (by omega) ?_
  rw [ha.2, hb.2]
  have e1 := own_pow hk
  have e2 := own_pow hl
  have e3 := own_pow hr
  have p1 := own_pow_pos k
  have p2 := own_pow_pos l
  have p3 := own_pow_pos r
  generalize ((2 ^ 1074 : Nat) : Int) = O at *
  generalize ((2 ^ (1074 - k) : Nat) : Int) = A at *
  generalize ((2 ^ (1074 - l) : Nat) : Int) = B at *
  generalize ((2 ^ (1074 - r) : Nat) : Int) = C at *
  generalize ((2 ^ k : Nat) : Int) = K at *
  generalize ((2 ^ l : Nat) : Int) = L at *
  generalize ((2 ^ r : Nat) : Int) = R at *
  refine Int.eq_of_mul_eq_mul_right (Int.ne_of_gt (Int.mul_pos p1 (Int.mul_pos p2 p3))) ?_
  calc n * A * (m * B) * (K * (L * R)) = n * m * R * ((A * K) * (B * L)) := by ac_rfl
    _ = N * K * L * (O * (C * R)) := by rw [h, e1, e2, e3]
    _ = N * C * O * (K * (L * R)) := by ac_rfl
theorem Dy.pos {n : Int} {k : Nat} {a : UInt64} (ha : Dy n k a) (h : 0 < n) : 0 < own_z a := by rw [ha.2]; exact Int.mul_pos h (own_pow_pos _)
theorem Dy.div {n m N : Int} {k l r : Nat} {a b : UInt64} (ha : Dy n k a) (hb : Dy m l b) (hm : 0 < m) (hk : k ≤ 1074) (hl : l ≤ 1074) (hr : r ≤ 1074)
    (h : n * ((2 ^ l : Nat) : Int) * ((2 ^ r : Nat) : Int) = N * m * ((2 ^ k : Nat) : Int)) (hN : N.natAbs < 2 ^ 53) : Dy N r (Jvm.FP.ddiv a b) := by
  refine own_div ha.1 hb.1 (hb.pos hm) hN (by omega) ?_
  rw [ha.2, hb.2]
  have e1 := own_pow hk
  have e2 := own_pow hl
  have e3 := own_pow hr
  have p1 := own_pow_pos k
  have p2 := own_pow_pos l
  have p3 := own_pow_pos r
  generalize ((2 ^ 1074 : Nat) : Int) = O at *
  generalize ((2 ^ (1074 - k) : Nat) : Int) = A at *
  generalize ((2 ^ (1074 - l) : Nat) : Int) = B at *
  generalize ((2 ^ (1074 - r) : Nat) : Int) = C at *
  generalize ((2 ^ k : Nat) : Int) = K at *
  generalize ((2 ^ l : Nat) : Int) = L at *
  generalize ((2 ^ r : Nat) : Int) = R at *
  refine Int.eq_of_mul_eq_mul_right (Int.ne_of_gt (Int.mul_pos p1 (Int.mul_pos p2 p3))) ?_
  calc n * A * O * (K * (L * R)) = n * L * R * (A * K) * O := by ac_rfl
    _ = N * m * K * (C * R) * (B * L) := by rw [h, e1, e2, e3]
    _ = N * C * (m * B) * (K * (L * R)) := by ac_rfl
theorem Dy.same {n m n' m' : Int} {k l k' l' : Nat} {a b a' b' : UInt64} (ha : Dy n k a) (hb : Dy m l b) (ha' : Dy n' k' a') (hb' : Dy m' l' b') (pn : 0 < n) (pm : 0 < m) (pn' : 0 < n') (pm' : 0 < m')
    (hk : k ≤ 1074) (hl : l ≤ 1074) (hk' : k' ≤ 1074) (hl' : l' ≤ 1074)
    (h : n * m' * ((2 ^ l : Nat) : Int) * ((2 ^ k' : Nat) : Int) = n' * m * ((2 ^ l' : Nat) : Int) * ((2 ^ k : Nat) : Int)) : Jvm.FP.ddiv a b = Jvm.FP.ddiv a' b' := by
  refine own_div_same ha.1 hb.1 ha'.1 hb'.1 (ha.pos pn) (hb.pos pm) (ha'.pos pn') (hb'.pos pm') ?_
  rw [ha.2, hb.2, ha'.2, hb'.2]
  have e1 := own_pow hk
  have e2 := own_pow hl
  have e3 := own_pow hk'
  have e4 := own_pow hl'
  have p1 := own_pow_pos k
  have p2 := own_pow_pos l
  have p3 := own_pow_pos k'
  have p4 := own_pow_pos l'
  generalize ((2 ^ 1074 : Nat) : Int) = O at *
  generalize ((2 ^ (1074 - k) : Nat) : Int) = A at *
  generalize ((2 ^ (1074 - l) : Nat) : Int) = B at *
  generalize ((2 ^ (1074 - k') : Nat) : Int) = A' at *
  generalize ((2 ^ (1074 - l') : Nat) : Int) = B' at *
  generalize ((2 ^ k : Nat) : Int) = K at *
  generalize ((2 ^ l : Nat) : Int) = L at *
  generalize ((2 ^ k' : Nat) : Int) = K' at *
  generalize ((2 ^ l' : Nat) : Int) = L' at *
  refine Int.eq_of_mul_eq_mul_right (Int.ne_of_gt (Int.mul_pos (Int.mul_pos p1 p2) (Int.mul_pos p3 p4))) ?_
  calc n * A * (m' * B') * (K * L * (K' * L')) = n * m' * L * K' * ((A * K) * (B' * L')) := by ac_rfl
    _ = n' * m * L' * K * ((A' * K') * (B * L)) := by rw [h, e1, e2, e3, e4]
    _ = n' * A' * (m * B) * (K * L * (K' * L')) := by ac_rfl
theorem Dy.cmp {n m : Int} {k : Nat} {a b : UInt64} (ha : Dy n k a) (hb : Dy m k b) (o : Jvm.ClassFile.CmpOp) :
    Jvm.Op.cmpValue (Jvm.FP.dcmp a b) o = if n < m then -1 else if n = m then 0 else 1 := by
  rw [own_cmp_int ha.1.ne_nan hb.1.ne_nan, ha.2, hb.2]
  have p := own_pow_pos (1074 - k)
  generalize ((2 ^ (1074 - k) : Nat) : Int) = A at *
  have e1 : (n * A < m * A) ↔ n < m := ⟨fun q => Int.lt_of_mul_lt_mul_right q (Int.le_of_lt p), fun q => Int.mul_lt_mul_of_pos_right q p⟩
  have e2 : (n * A = m * A) ↔ n = m := ⟨fun q => Int.eq_of_mul_eq_mul_right (Int.ne_of_gt p) q, fun q => by rw [q]⟩
  simp only [e1, e2]
theorem Dy.div_le {n m N : Int} {k r : Nat} {a b : UInt64} (ha : Dy n k a) (hb : Dy m k b) (hm : 0 < m) (hr : r ≤ 1074) (hN : N.natAbs < 2 ^ 53)
    (h : n * ((2 ^ r : Nat) : Int) ≤ N * m) : own_z (Jvm.FP.ddiv a b) ≤ N * ((2 ^ (1074 - r) : Nat) : Int) := by
  refine own_div_le ha.1 hb.1 (hb.pos hm) hN (by omega) ?_
  rw [ha.2, hb.2, ← own_pow hr]
  have p1 := own_pow_pos (1074 - k)
  have p2 := own_pow_pos (1074 - r)
  generalize ((2 ^ (1074 - k) : Nat) : Int) = A at *
  generalize ((2 ^ (1074 - r) : Nat) : Int) = C at *
  generalize ((2 ^ r : Nat) : Int) = R at *
  have q := Int.mul_le_mul_of_nonneg_right h (Int.le_of_lt (Int.mul_pos p1 p2))
  calc n * A * (C * R) = n * R * (A * C) := by ac_rfl
    _ ≤ N * m * (A * C) := q
    _ = N * C * (m * A) := by ac_rfl
theorem Dy.div_ge {n m N : Int} {k r : Nat} {a b : UInt64} (ha : Dy n k a) (hb : Dy m k b) (hm : 0 < m) (hr : r ≤ 1074) (hN : N.natAbs < 2 ^ 53)
    (h : N * m ≤ n * ((2 ^ r : Nat) : Int)) : N * ((2 ^ (1074 - r) : Nat) : Int) ≤ own_z (Jvm.FP.ddiv a b) := by
  refine own_div_ge ha.1 hb.1 (hb.pos hm) hN (by omega) ?_
  rw [ha.2, hb.2, ← own_pow hr]
  have p1 := own_pow_pos (1074 - k)
  have p2 := own_pow_pos (1074 - r)
  generalize ((2 ^ (1074 - k) : Nat) : Int) = A at *
  generalize ((2 ^ (1074 - r) : Nat) : Int) = C at *
  generalize ((2 ^ r : Nat) : Int) = R at *
  have q := Int.mul_le_mul_of_nonneg_right h (Int.le_of_lt (Int.mul_pos p1 p2))
  calc N * C * (m * A) = N * m * (A * C) := by ac_rfl
    _ ≤ n * R * (A * C) := q
    _ = n * A * (C * R) := by ac_rfl
theorem Dy.div_nn {n m : Int} {k l : Nat} {a b : UInt64} (ha : Dy n k a) (hb : Dy m l b) (hm : 0 < m) : val64 (Jvm.FP.ddiv a b) ≠ .nan :=
  own_div_nn ha.1 hb.1 (Int.ne_of_gt (hb.pos hm))
theorem own_fin64 {a : UInt64} (h : DFin a) : Jvm.Free.Fl.Fin64 a := Jvm.Free.Fl.fin64_core.mpr h
theorem own_nz64 {a : UInt64} (h : DFin a) (hz : own_z a ≠ 0) : Jvm.Free.Fl.Nz64 a := Jvm.Free.Fl.nz64_core.mpr (dnot_zero h.ne_nan hz)
theorem own_nn' {a : UInt64} (h : val64 a ≠ .nan) : Jvm.Free.Fl.NoNaN64 a := Jvm.Free.Fl.noNaN64_no.mpr ((notNaN_iff a).mpr h)
theorem own_c_lt (P Q : Prop) [Decidable P] [Decidable Q] : (if P then (-1 : Int32) else if Q then 0 else 1) < (0 : Int32) ↔ P := by
  by_cases h : P
  · rw [if_pos h]; exact ⟨fun _ => h, fun _ => by decide⟩
  · rw [if_neg h]
    by_cases h2 : Q
    · rw [if_pos h2]; exact ⟨fun q => absurd q (by decide), fun q => absurd q h⟩
    · rw [if_neg h2]; exact ⟨fun q => absurd q (by decide), fun q => absurd q h⟩
theorem own_c_gt (P Q : Prop) [Decidable P] [Decidable Q] : (0 : Int32) < (if P then (-1 : Int32) else if Q then 0 else 1) ↔ ¬ P ∧ ¬ Q := by
  by_cases h : P
  · rw [if_pos h]; exact ⟨fun q => absurd q (by decide), fun q => absurd h q.1⟩
  · rw [if_neg h]
    by_cases h2 : Q
    · rw [if_pos h2]; exact ⟨fun q => absurd q (by decide), fun q => absurd h2 q.2⟩
    · rw [if_neg h2]; exact ⟨fun _ => ⟨h, h2⟩, fun _ => by decide⟩
theorem own_c_eq (P Q : Prop) [Decidable P] [Decidable Q] : (if P then (-1 : Int32) else if Q then 0 else 1) = (0 : Int32) ↔ ¬ P ∧ Q := by
  by_cases h : P
  · rw [if_pos h]; exact ⟨fun q => absurd q (by decide), fun q => absurd h q.1⟩
  · rw [if_neg h]
    by_cases h2 : Q
    · rw [if_pos h2]; exact ⟨fun _ => ⟨h, h2⟩, fun _ => rfl⟩
    · rw [if_neg h2]; exact ⟨fun q => absurd q (by decide), fun q => absurd q.2 h2⟩
theorem own_lt0 {a b : UInt64} (ha : val64 a ≠ .nan) (hb : val64 b ≠ .nan) (o : Jvm.ClassFile.CmpOp) : Jvm.Op.cmpValue (Jvm.FP.dcmp a b) o < (0 : Int32) ↔ own_z a < own_z b := by
  rw [own_cmp_int ha hb]; exact own_c_lt _ _
theorem own_gt0 {a b : UInt64} (ha : val64 a ≠ .nan) (hb : val64 b ≠ .nan) (o : Jvm.ClassFile.CmpOp) : (0 : Int32) < Jvm.Op.cmpValue (Jvm.FP.dcmp a b) o ↔ own_z b < own_z a := by
  rw [own_cmp_int ha hb, own_c_gt]; omega
theorem own_eq0 {a b : UInt64} (ha : val64 a ≠ .nan) (hb : val64 b ≠ .nan) (o : Jvm.ClassFile.CmpOp) : Jvm.Op.cmpValue (Jvm.FP.dcmp a b) o = (0 : Int32) ↔ own_z a = own_z b := by
  rw [own_cmp_int ha hb, own_c_eq]; omega
theorem Dy.lt0 {n m : Int} {k : Nat} {a b : UInt64} (ha : Dy n k a) (hb : Dy m k b) (o : Jvm.ClassFile.CmpOp) : Jvm.Op.cmpValue (Jvm.FP.dcmp a b) o < (0 : Int32) ↔ n < m := by
  rw [ha.cmp hb]; exact own_c_lt _ _
theorem Dy.gt0 {n m : Int} {k : Nat} {a b : UInt64} (ha : Dy n k a) (hb : Dy m k b) (o : Jvm.ClassFile.CmpOp) : (0 : Int32) < Jvm.Op.cmpValue (Jvm.FP.dcmp a b) o ↔ m < n := by
  rw [ha.cmp hb, own_c_gt]; omega
theorem Dy.eq0 {n m : Int} {k : Nat} {a b : UInt64} (ha : Dy n k a) (hb : Dy m k b) (o : Jvm.ClassFile.CmpOp) : Jvm.Op.cmpValue (Jvm.FP.dcmp a b) o = (0 : Int32) ↔ n = m := by
  rw [ha.cmp hb, own_c_eq]; omega
theorem Dy.zero (k : Nat) : Dy 0 k Jvm.FP.dconst0 := ⟨⟨false, 0, b64.qmin, val64_dconst0⟩, by rw [Int.zero_mul]; exact zval64_zero⟩
theorem Dy.one : Dy 1 0 Jvm.FP.dconst1 := ⟨⟨false, 2 ^ 52, -52, val64_dconst1⟩, by rw [Int.one_mul]; exact (DInt_zval dint_one).trans (Int.one_mul _)⟩
theorem Dy.d2l {n : Int} {a : UInt64} (ha : Dy n 0 a) (h0 : 0 ≤ n) (h1 : n < 2 ^ 63) : (Jvm.FP.d2l a).toInt = n := by
  rw [show (Jvm.FP.d2l a).toInt = _ from d2l_val ha.1.ne_nan]
  have e : (own_z a).natAbs = zmag b64 (val64 a) := own_zabs _
  have e2 : own_z a = n * ((2 ^ 1074 : Nat) : Int) := ha.2
  have e3 : zmag b64 (val64 a) = n.natAbs * one64 := by rw [← e, e2, Int.natAbs_mul, Int.natAbs_natCast]; rfl
  rw [e3, Nat.mul_div_cancel _ one64_pos]
  by_cases hz : n = 0
  · subst hz
    rw [show (0 : Int).natAbs = 0 from rfl, signed_zero]; decide
  · rw [own_sgn_pos (ha.pos (by omega)), show signed false n.natAbs = (n.natAbs : Int) from rfl]
    omega
theorem Dy.up {n m : Int} {k l : Nat} {a : UInt64} (ha : Dy n k a) (j : Nat) (hl : l = k + j) (h : l ≤ 1074) (hm : m = n * ((2 ^ j : Nat) : Int)) : Dy m l a := by
  refine ha.conv (by omega) h ?_
  subst hl hm
  rw [Nat.pow_add, Int.natCast_mul]
  ac_rfl
end OwnFl
open Jvm Jvm.ClassFile Sem Op Lib Jvm.Free Jvm.Stand Jvm.LawKit Jvm.RoadKit Bundle Jvm.Pilot.@@N@@.Jvm.D
def QP (rv : Option Value) (h0 : Heap) (n0 : Nat) (v : Option Value) (h : Heap) (L : List Loc) : Prop := v = rv ∧ Fr n0 L ∧ h = h0
def QL (n0 : Nat) (v : Option Value) (h : Heap) (L : List Loc) : Prop := v = some (.int (1 : Int32)) ∧ Fr n0 L
theorem own_sta_keep {Z : State} {h h' : Heap} {C n d D : String} {v : Value} {a : Addr} (S : Sta Z h C n d v) (K : Keep h h' [a]) (E : Exa Z h a D) : Sta Z h' C n d v := by
  obtain ⟨cf, i, k, f, st, cell, h1, h2, h3, h4, h5, h6, h7⟩ := S
  obtain ⟨c2, k2, e1, e2, e3, e4, e5⟩ := E
  refine ⟨cf, i, k, f, st, cell, h1, h2, h3, h4, K.2.1 st cell h5 ?_, h6, h7⟩
  intro hm
  rw [List.mem_singleton] at hm
  subst hm
  rw [e1] at h5
  cases h5
  rw [e4] at h6
  cases h6
def F3 (u w : UInt64) : Int32 := if cmpValue (FP.dcmp u (FP.l2d (30000 : Int64))) .g < (0 : Int32) then (if cmpValue (FP.dcmp w (4609434218613702656 : UInt64)) .g < (0 : Int32) then 1 else 0) else 0
def F5 (q1 q2 : Int64) : Int64 := if (0 : Int32) < lcmpW q1 q2 then q2 else q1
theorem d1_0 : decode prog_64_method_1_code 0 = .ok (.aload_n 0, 1) := by decide +kernel
theorem d1_1 : decode prog_64_method_1_code 1 = .ok (.invokespecial 1, 3) := by decide +kernel
theorem d1_4 : decode prog_64_method_1_code 4 = .ok (.aload_n 0, 1) := by decide +kernel
theorem d1_5 : decode prog_64_method_1_code 5 = .ok (.getstatic 7, 3) := by decide +kernel
theorem d1_8 : decode prog_64_method_1_code 8 = .ok (.l2d, 1) := by decide +kernel
theorem d1_9 : decode prog_64_method_1_code 9 = .ok (.putfield 13, 3) := by decide +kernel
theorem d1_12 : decode prog_64_method_1_code 12 = .ok (.aload_n 0, 1) := by decide +kernel
theorem d1_13 : decode prog_64_method_1_code 13 = .ok (.dconst 1, 1) := by decide +kernel
theorem d1_14 : decode prog_64_method_1_code 14 = .ok (.putfield 17, 3) := by decide +kernel
theorem d1_17 : decode prog_64_method_1_code 17 = .ok (.return_, 1) := by decide +kernel
theorem pn_1 : plainName "com/example/tanager/tanager/Polling" = true := by first | (simp [plainName, overriddenIn]; done) | decide +kernel
theorem ef_1 (m : MethodId) (x0 : Addr) : entryFrame m #[(.ref x0)] 1 = mkF m 0 #[.val (.ref x0)] [] := by first | (simp [entryFrame, mkF, argsToLocals, Value.category]; done) | rfl
def Q1 (Z : State) (a1 : Addr) (w3 : Int64) (h0 : Heap) (n0 : Nat) (v : Option Value) (h : Heap) (L : List Loc) : Prop := v = none ∧ Fr n0 L ∧ Keep h0 h [a1] ∧ Exa Z h a1 "com/example/tanager/tanager/Polling" ∧ Fld Z h a1 "com/example/tanager/tanager/Polling" "recentWaitNanos" "D" (.double (FP.l2d w3)) ∧ Fld Z h a1 "com/example/tanager/tanager/Polling" "recentCalls" "D" (.double FP.dconst1)
set_option maxRecDepth 65536 in
set_option maxHeartbeats 40000000 in
theorem rm1 (l : Launch) (Z : State) (a0 : Array Value) (hw : ∀ d ∈ tables_1, d.before a0 Z = true) (ws : List Jvm.Cond) (a1 : Addr) (w3 : Int64) (u_recentWaitNanos_a1 : Value) (u_recentCalls_a1 : Value) (h0 : Heap) (n0 : Nat) (Z0 : n0 ≤ h0.size) (S_LONGEST_WAIT_COUNTED : Sta Z h0 "com/example/tanager/tanager/Polling" "LONGEST_WAIT_COUNTED" "J" (.long w3)) (E_a1 : Exa Z h0 a1 "com/example/tanager/tanager/Polling") (F_recentWaitNanos_a1 : Fld Z h0 a1 "com/example/tanager/tanager/Polling" "recentWaitNanos" "D" u_recentWaitNanos_a1) (g_a1 : n0 ≤ a1) (F_recentCalls_a1 : Fld Z h0 a1 "com/example/tanager/tanager/Polling" "recentCalls" "D" u_recentCalls_a1) :
    MetFree l (⟨"com/example/tanager/tanager/Polling", "<init>", "()V"⟩ : MethodName) (head1 (Jvm.Cond.code (⟨"com/example/tanager/tanager/Polling", "<init>", "()V"⟩ : MethodName) prog_64_method_1_code 1 none :: ws) ({ frames := 1, cells := 0, slots := 0, locals := 12 } : Room)) (fun a U => a = #[(.ref a1)] ∧ Z.Warmed39 U.vm ∧ U.heap = h0) (fun _ _ _ _ _ => True) (fun _ U o U' => ∃ v L, o = .returned v ∧ Q1 Z a1 w3 h0 n0 v U'.heap L ∧ FrameEnd U o U' L ({ frames := 1, cells := 0, slots := 0, locals := 12 } : Room).cells ({ frames := 1, cells := 0, slots := 0, locals := 12 } : Room).slots) := by
  refine MetFree.of_bodySF (plainFor_of_name pn_1) hisR ?_
  intro p e s m args below meth c s₁ Bd hml0 hP hK
  obtain ⟨rfl, hZ, hh⟩ := hP
  have hx := Bd.exec
  have hby := Bd.bytes
  have hml : c.maxLocals = 1 := hml0
  have hown : s.vm.findClass "com/example/tanager/tanager/Polling" = some m.cls := findClass_of_methodNamed Bd.named
  have hnm := (name_of_methodNamed Bd.named Bd.method).1
  have X0 : Stand p l e ({ frames := 1, cells := 0, slots := 0, locals := 12 } : Room) s m #[(.ref a1)] below meth c s₁ [] 0 0 := Stand.of_body Bd
  have e0 : s₁.heap = h0 := by rw [← hh, Bd.state]; rfl
  have N0 := Fr.nil n0
  have pre0 : ∀ t, Steps p.tables e below (s₁.setTop (mkF m 0 #[.val (.ref a1)] [])) t → Steps p.tables e below (s₁.setTop (entryFrame m #[(.ref a1)] 1)) t := fun t k => castTop (ef_1 m a1) k
  obtain ⟨T2, X2, e2, st2⟩ := initO X0 hx hZ hown (hw _ (List.mem_of_getElem? (i := 7) rfl)) (hw _ (List.mem_of_getElem? (i := 8) rfl)) (hw _ (List.mem_of_getElem? (i := 9) rfl)) e0 (g := (mkF m 1 #[.val (.ref a1)] [(.ref a1)])) rfl (by rw [hml]; rfl) rfl (hb hby d1_1) (by decide) (W := 0) (by show 2 * 0 + _ ≤ _; exact Nat.le_of_eq rfl) (by decide)
  obtain ⟨T4, X4, e4, st4⟩ := getS2 X2 hx hZ hown (host := "") (Or.inl (hw _ (List.mem_of_getElem? (i := 10) rfl))) Via.refl e2 S_LONGEST_WAIT_COUNTED (g := (mkF m 5 #[.val (.ref a1)] [(.ref a1)])) rfl (hb hby d1_5)
  obtain ⟨T5, h5, X5, e5, W5, st5⟩ := putF X4 hx hZ hown (host := "") (Or.inl (hw _ (List.mem_of_getElem? (i := 12) rfl))) Via.refl e4 F_recentWaitNanos_a1 E_a1 (Or.inl (hw _ (List.mem_of_getElem? (i := 13) rfl))) (hw _ (List.mem_of_getElem? (i := 2) rfl)) (ty := .double) (by decide) rfl rfl (g := (mkF m 9 #[.val (.ref a1)] [(.double (FP.l2d w3)), (.ref a1)])) rfl rfl (hb hby d1_9)
  have Fw5 := F_recentWaitNanos_a1.same W5
  have K5 : Keep h0 h5 [a1] := (Keep.refl h0 [a1]).wr W5 (Or.inl (List.mem_of_getElem? (i := 0) rfl))
  have N5 := Fr.snoc X5 N0 g_a1
  obtain ⟨T6, h6, X6, e6, W6, st6⟩ := putF X5 hx hZ hown (host := "") (Or.inl (hw _ (List.mem_of_getElem? (i := 14) rfl))) Via.refl e5 (F_recentCalls_a1.other W5 (Or.inr (slot_ne (Or.inl (hw _ (List.mem_of_getElem? (i := 15) rfl))) (Or.inl (hw _ (List.mem_of_getElem? (i := 13) rfl))) (by decide) (t := .double) (t' := .double) (by decide) (by decide)))) (E_a1.wr W5) (Or.inl (hw _ (List.mem_of_getElem? (i := 15) rfl))) (hw _ (List.mem_of_getElem? (i := 2) rfl)) (ty := .double) (by decide) rfl rfl (g := (mkF m 14 #[.val (.ref a1)] [(.double FP.dconst1), (.ref a1)])) rfl rfl (hb hby d1_14)
  have Fw6 := (F_recentCalls_a1.other W5 (Or.inr (slot_ne (Or.inl (hw _ (List.mem_of_getElem? (i := 15) rfl))) (Or.inl (hw _ (List.mem_of_getElem? (i := 13) rfl))) (by decide) (t := .double) (t' := .double) (by decide) (by decide)))).same W6
  have K6 : Keep h0 h6 [a1] := K5.wr W6 (Or.inl (List.mem_of_getElem? (i := 0) rfl))
  have N6 := Fr.snoc X6 N5 g_a1
  obtain ⟨fs, hr, hrun, hended, hW, hsame⟩ := X6.leave (v := none) (fun _ => rfl)
  refine ⟨_, _, pre0 _ ?_, hrun, hended, _, _, rfl, ?_, ⟨_, rfl⟩, hW, hsame.mono (by decide) (by decide)⟩
  · show Steps p.tables e below (s₁.setTop (mkF m 0 #[.val (.ref a1)] [])) _
    refine XS.aloadN X0.here hx rfl (hb hby d1_0) rfl rfl ?_
    show Steps p.tables e below (s₁.setTop (mkF m 1 #[.val (.ref a1)] [(.ref a1)])) _
    refine st2 _ ?_
    show Steps p.tables e below (T2.setTop (mkF m 4 #[.val (.ref a1)] [])) _
    refine XS.aloadN X2.here hx rfl (hb hby d1_4) rfl rfl ?_
    show Steps p.tables e below (T2.setTop (mkF m 5 #[.val (.ref a1)] [(.ref a1)])) _
    refine st4 _ ?_
    show Steps p.tables e below (T4.setTop (mkF m 8 #[.val (.ref a1)] [(.long w3), (.ref a1)])) _
    refine XS.l2dS X4.here hx rfl (hb hby d1_8) rfl rfl ?_
    show Steps p.tables e below (T4.setTop (mkF m 9 #[.val (.ref a1)] [(.double (FP.l2d w3)), (.ref a1)])) _
    refine st5 _ ?_
    show Steps p.tables e below (T5.setTop (mkF m 12 #[.val (.ref a1)] [])) _
    refine XS.aloadN X5.here hx rfl (hb hby d1_12) rfl rfl ?_
    show Steps p.tables e below (T5.setTop (mkF m 13 #[.val (.ref a1)] [(.ref a1)])) _
    refine XS.dconst1 X5.here hx rfl (hb hby d1_13) rfl ?_
    show Steps p.tables e below (T5.setTop (mkF m 14 #[.val (.ref a1)] [(.double FP.dconst1), (.ref a1)])) _
    refine st6 _ ?_
    show Steps p.tables e below (T6.setTop (mkF m 17 #[.val (.ref a1)] [])) _
    exact X6.returnOut hx Bd.returns (hb hby d1_17) hr
  · show Q1 Z a1 w3 h0 n0 _ T6.heap _
    rw [e6]
    exact ⟨rfl, N6, K6, ((E_a1.wr W5).wr W6), (Fw5.other W6 (Or.inr (slot_ne (Or.inl (hw _ (List.mem_of_getElem? (i := 13) rfl))) (Or.inl (hw _ (List.mem_of_getElem? (i := 15) rfl))) (by decide) (t := .double) (t' := .double) (by decide) (by decide)))), Fw6⟩
theorem d3_0 : decode prog_64_method_2_code 0 = .ok (.aload_n 0, 1) := by decide +kernel
theorem d3_1 : decode prog_64_method_2_code 1 = .ok (.getfield 13, 3) := by decide +kernel
theorem d3_4 : decode prog_64_method_2_code 4 = .ok (.getstatic 20, 3) := by decide +kernel
theorem d3_7 : decode prog_64_method_2_code 7 = .ok (.l2d, 1) := by decide +kernel
theorem d3_8 : decode prog_64_method_2_code 8 = .ok (.dcmp .g, 1) := by decide +kernel
theorem d3_9 : decode prog_64_method_2_code 9 = .ok (.ifCond .ge 18, 3) := by decide +kernel
theorem d3_27 : decode prog_64_method_2_code 27 = .ok (.iconst 0, 1) := by decide +kernel
theorem d3_28 : decode prog_64_method_2_code 28 = .ok (.ireturn, 1) := by decide +kernel
theorem pn_3 : plainName "com/example/tanager/tanager/Polling" = true := by first | (simp [plainName, overriddenIn]; done) | decide +kernel
theorem ef_3 (m : MethodId) (x0 : Addr) : entryFrame m #[(.ref x0)] 1 = mkF m 0 #[.val (.ref x0)] [] := by first | (simp [entryFrame, mkF, argsToLocals, Value.category]; done) | rfl
set_option maxRecDepth 65536 in
set_option maxHeartbeats 40000000 in
theorem rm3_t (l : Launch) (Z : State) (a0 : Array Value) (hw : ∀ d ∈ tables_1, d.before a0 Z = true) (ws : List Jvm.Cond) (a1 : Addr) (w2 : UInt64) (h0 : Heap) (n0 : Nat) (Z0 : n0 ≤ h0.size) (F_recentWaitNanos_a1 : Fld Z h0 a1 "com/example/tanager/tanager/Polling" "recentWaitNanos" "D" (.double w2)) (S_NANOS : Sta Z h0 "com/example/tanager/tanager/Polling" "NANOS" "J" (.long (30000 : Int64))) (hc9 : ¬ ((cmpValue (FP.dcmp w2 (FP.l2d (30000 : Int64))) .g) < (0 : Int32))) :
    MetFree l (⟨"com/example/tanager/tanager/Polling", "worthIt", "()Z"⟩ : MethodName) (head1 (Jvm.Cond.code (⟨"com/example/tanager/tanager/Polling", "worthIt", "()Z"⟩ : MethodName) prog_64_method_2_code 1 (some .boolean) :: ws) ({ frames := 0, cells := 0, slots := 0, locals := 0 } : Room)) (fun a U => a = #[(.ref a1)] ∧ Z.Warmed39 U.vm ∧ U.heap = h0) (fun _ _ _ _ _ => True) (fun _ U o U' => ∃ v L, o = .returned v ∧ QP (some (.int (0 : Int32))) h0 n0 v U'.heap L ∧ FrameEnd U o U' L ({ frames := 0, cells := 0, slots := 0, locals := 0 } : Room).cells ({ frames := 0, cells := 0, slots := 0, locals := 0 } : Room).slots) := by
  refine MetFree.of_bodySF (plainFor_of_name pn_3) hisR ?_
  intro p e s m args below meth c s₁ Bd hml0 hP hK
  obtain ⟨rfl, hZ, hh⟩ := hP
  have hx := Bd.exec
  have hby := Bd.bytes
  have hml : c.maxLocals = 1 := hml0
  have hown : s.vm.findClass "com/example/tanager/tanager/Polling" = some m.cls := findClass_of_methodNamed Bd.named
  have hnm := (name_of_methodNamed Bd.named Bd.method).1
  have X0 : Stand p l e ({ frames := 0, cells := 0, slots := 0, locals := 0 } : Room) s m #[(.ref a1)] below meth c s₁ [] 0 0 := Stand.of_body Bd
  have e0 : s₁.heap = h0 := by rw [← hh, Bd.state]; rfl
  have N0 := Fr.nil n0
  have pre0 : ∀ t, Steps p.tables e below (s₁.setTop (mkF m 0 #[.val (.ref a1)] [])) t → Steps p.tables e below (s₁.setTop (entryFrame m #[(.ref a1)] 1)) t := fun t k => castTop (ef_3 m a1) k
  obtain ⟨T3, X3, e3, st3⟩ := getF X0 hx hZ hown (host := "") (Or.inl (hw _ (List.mem_of_getElem? (i := 12) rfl))) Via.refl e0 F_recentWaitNanos_a1 (g := (mkF m 1 #[.val (.ref a1)] [(.ref a1)])) rfl rfl (hb hby d3_1)
  obtain ⟨T5, X5, e5, st5⟩ := getS2 X3 hx hZ hown (host := "") (Or.inl (hw _ (List.mem_of_getElem? (i := 21) rfl))) Via.refl e3 S_NANOS (g := (mkF m 4 #[.val (.ref a1)] [(.double w2)])) rfl (hb hby d3_4)
  obtain ⟨fs, hr, hrun, hended, hW, hsame⟩ := X5.leave (v := some (.int (0 : Int32))) (fun h => by rw [Bd.returns] at h; cases h)
  refine ⟨_, _, pre0 _ ?_, hrun, hended, _, _, rfl, ?_, ⟨_, rfl⟩, hW, hsame.mono (by decide) (by decide)⟩
  · show Steps p.tables e below (s₁.setTop (mkF m 0 #[.val (.ref a1)] [])) _
    refine XS.aloadN X0.here hx rfl (hb hby d3_0) rfl rfl ?_
    show Steps p.tables e below (s₁.setTop (mkF m 1 #[.val (.ref a1)] [(.ref a1)])) _
    refine st3 _ ?_
    show Steps p.tables e below (T3.setTop (mkF m 4 #[.val (.ref a1)] [(.double w2)])) _
    refine st5 _ ?_
    show Steps p.tables e below (T5.setTop (mkF m 7 #[.val (.ref a1)] [(.long (30000 : Int64)), (.double w2)])) _
    refine XS.l2dS X5.here hx rfl (hb hby d3_7) rfl rfl ?_
    show Steps p.tables e below (T5.setTop (mkF m 8 #[.val (.ref a1)] [(.double (FP.l2d (30000 : Int64))), (.double w2)])) _
    refine XS.dcmpS X5.here hx rfl (hb hby d3_8) rfl rfl ?_
    show Steps p.tables e below (T5.setTop (mkF m 9 #[.val (.ref a1)] [(.int (cmpValue (FP.dcmp w2 (FP.l2d (30000 : Int64))) .g))])) _
    refine XS.ifYes X5.here hx rfl (pc0 := 9) (pc' := 27) rfl (hb hby d3_9) rfl ((if0 _ _).trans (flt hc9).2.1) (by decide) (by decide) ?_
    show Steps p.tables e below (T5.setTop (mkF m 27 #[.val (.ref a1)] [])) _
    refine XS.iconst X5.here hx rfl (hb hby d3_27) ?_
    show Steps p.tables e below (T5.setTop (mkF m 28 #[.val (.ref a1)] [(.int (0 : Int32))])) _
    exact retN X5 hx (t := .boolean) Bd.returns (by simp) (hb hby d3_28) hr
  · show QP (some (.int (0 : Int32))) h0 n0 _ T5.heap _
    rw [e5]
    exact ⟨rfl, N0, rfl⟩
theorem d3_12 : decode prog_64_method_2_code 12 = .ok (.aload_n 0, 1) := by decide +kernel
theorem d3_13 : decode prog_64_method_2_code 13 = .ok (.getfield 17, 3) := by decide +kernel
theorem d3_16 : decode prog_64_method_2_code 16 = .ok (.ldc2_w 23, 3) := by decide +kernel
theorem d3_19 : decode prog_64_method_2_code 19 = .ok (.dcmp .g, 1) := by decide +kernel
theorem d3_20 : decode prog_64_method_2_code 20 = .ok (.ifCond .ge 7, 3) := by decide +kernel
set_option maxRecDepth 65536 in
set_option maxHeartbeats 40000000 in
theorem rm3_ft (l : Launch) (Z : State) (a0 : Array Value) (hw : ∀ d ∈ tables_1, d.before a0 Z = true) (ws : List Jvm.Cond) (a1 : Addr) (w2 : UInt64) (w6 : UInt64) (h0 : Heap) (n0 : Nat) (Z0 : n0 ≤ h0.size) (F_recentWaitNanos_a1 : Fld Z h0 a1 "com/example/tanager/tanager/Polling" "recentWaitNanos" "D" (.double w2)) (S_NANOS : Sta Z h0 "com/example/tanager/tanager/Polling" "NANOS" "J" (.long (30000 : Int64))) (F_recentCalls_a1 : Fld Z h0 a1 "com/example/tanager/tanager/Polling" "recentCalls" "D" (.double w6)) (hc9 : (cmpValue (FP.dcmp w2 (FP.l2d (30000 : Int64))) .g) < (0 : Int32)) (hc20 : ¬ ((cmpValue (FP.dcmp w6 (4609434218613702656 : UInt64)) .g) < (0 : Int32))) :
    MetFree l (⟨"com/example/tanager/tanager/Polling", "worthIt", "()Z"⟩ : MethodName) (head1 (Jvm.Cond.code (⟨"com/example/tanager/tanager/Polling", "worthIt", "()Z"⟩ : MethodName) prog_64_method_2_code 1 (some .boolean) :: ws) ({ frames := 0, cells := 0, slots := 0, locals := 0 } : Room)) (fun a U => a = #[(.ref a1)] ∧ Z.Warmed39 U.vm ∧ U.heap = h0) (fun _ _ _ _ _ => True) (fun _ U o U' => ∃ v L, o = .returned v ∧ QP (some (.int (0 : Int32))) h0 n0 v U'.heap L ∧ FrameEnd U o U' L ({ frames := 0, cells := 0, slots := 0, locals := 0 } : Room).cells ({ frames := 0, cells := 0, slots := 0, locals := 0 } : Room).slots) := by
  refine MetFree.of_bodySF (plainFor_of_name pn_3) hisR ?_
  intro p e s m args below meth c s₁ Bd hml0 hP hK
  obtain ⟨rfl, hZ, hh⟩ := hP
  have hx := Bd.exec
  have hby := Bd.bytes
  have hml : c.maxLocals = 1 := hml0
  have hown : s.vm.findClass "com/example/tanager/tanager/Polling" = some m.cls := findClass_of_methodNamed Bd.named
  have hnm := (name_of_methodNamed Bd.named Bd.method).1
  have X0 : Stand p l e ({ frames := 0, cells := 0, slots := 0, locals := 0 } : Room) s m #[(.ref a1)] below meth c s₁ [] 0 0 := Stand.of_body Bd
  have e0 : s₁.heap = h0 := by rw [← hh, Bd.state]; rfl
  have N0 := Fr.nil n0
  have pre0 : ∀ t, Steps p.tables e below (s₁.setTop (mkF m 0 #[.val (.ref a1)] [])) t → Steps p.tables e below (s₁.setTop (entryFrame m #[(.ref a1)] 1)) t := fun t k => castTop (ef_3 m a1) k
  obtain ⟨T3, X3, e3, st3⟩ := getF X0 hx hZ hown (host := "") (Or.inl (hw _ (List.mem_of_getElem? (i := 12) rfl))) Via.refl e0 F_recentWaitNanos_a1 (g := (mkF m 1 #[.val (.ref a1)] [(.ref a1)])) rfl rfl (hb hby d3_1)
  obtain ⟨T5, X5, e5, st5⟩ := getS2 X3 hx hZ hown (host := "") (Or.inl (hw _ (List.mem_of_getElem? (i := 21) rfl))) Via.refl e3 S_NANOS (g := (mkF m 4 #[.val (.ref a1)] [(.double w2)])) rfl (hb hby d3_4)
  obtain ⟨T7, X7, e7, st7⟩ := getF X5 hx hZ hown (host := "") (Or.inl (hw _ (List.mem_of_getElem? (i := 14) rfl))) Via.refl e5 F_recentCalls_a1 (g := (mkF m 13 #[.val (.ref a1)] [(.ref a1)])) rfl rfl (hb hby d3_13)
  obtain ⟨fs, hr, hrun, hended, hW, hsame⟩ := X7.leave (v := some (.int (0 : Int32))) (fun h => by rw [Bd.returns] at h; cases h)
  refine ⟨_, _, pre0 _ ?_, hrun, hended, _, _, rfl, ?_, ⟨_, rfl⟩, hW, hsame.mono (by decide) (by decide)⟩
  · show Steps p.tables e below (s₁.setTop (mkF m 0 #[.val (.ref a1)] [])) _
    refine XS.aloadN X0.here hx rfl (hb hby d3_0) rfl rfl ?_
    show Steps p.tables e below (s₁.setTop (mkF m 1 #[.val (.ref a1)] [(.ref a1)])) _
    refine st3 _ ?_
    show Steps p.tables e below (T3.setTop (mkF m 4 #[.val (.ref a1)] [(.double w2)])) _
    refine st5 _ ?_
    show Steps p.tables e below (T5.setTop (mkF m 7 #[.val (.ref a1)] [(.long (30000 : Int64)), (.double w2)])) _
    refine XS.l2dS X5.here hx rfl (hb hby d3_7) rfl rfl ?_
    show Steps p.tables e below (T5.setTop (mkF m 8 #[.val (.ref a1)] [(.double (FP.l2d (30000 : Int64))), (.double w2)])) _
    refine XS.dcmpS X5.here hx rfl (hb hby d3_8) rfl rfl ?_
    show Steps p.tables e below (T5.setTop (mkF m 9 #[.val (.ref a1)] [(.int (cmpValue (FP.dcmp w2 (FP.l2d (30000 : Int64))) .g))])) _
    refine XS.ifNo X5.here hx rfl (hb hby d3_9) rfl ((if0 _ _).trans (tlt hc9).2.1) ?_
    show Steps p.tables e below (T5.setTop (mkF m 12 #[.val (.ref a1)] [])) _
    refine XS.aloadN X5.here hx rfl (hb hby d3_12) rfl rfl ?_
    show Steps p.tables e below (T5.setTop (mkF m 13 #[.val (.ref a1)] [(.ref a1)])) _
    refine st7 _ ?_
    show Steps p.tables e below (T7.setTop (mkF m 16 #[.val (.ref a1)] [(.double w6)])) _
    refine X7.ldc2DoubleC hx hown (mvT hZ (hw _ (List.mem_of_getElem? (i := 39) rfl))) (g := (mkF m 16 #[.val (.ref a1)] [(.double w6)])) rfl (hb hby d3_16) _ ?_
    show Steps p.tables e below (T7.setTop (mkF m 19 #[.val (.ref a1)] [(.double (4609434218613702656 : UInt64)), (.double w6)])) _
    refine XS.dcmpS X7.here hx rfl (hb hby d3_19) rfl rfl ?_
    show Steps p.tables e below (T7.setTop (mkF m 20 #[.val (.ref a1)] [(.int (cmpValue (FP.dcmp w6 (4609434218613702656 : UInt64)) .g))])) _
    refine XS.ifYes X7.here hx rfl (pc0 := 20) (pc' := 27) rfl (hb hby d3_20) rfl ((if0 _ _).trans (flt hc20).2.1) (by decide) (by decide) ?_
    show Steps p.tables e below (T7.setTop (mkF m 27 #[.val (.ref a1)] [])) _
    refine XS.iconst X7.here hx rfl (hb hby d3_27) ?_
    show Steps p.tables e below (T7.setTop (mkF m 28 #[.val (.ref a1)] [(.int (0 : Int32))])) _
    exact retN X7 hx (t := .boolean) Bd.returns (by simp) (hb hby d3_28) hr
  · show QP (some (.int (0 : Int32))) h0 n0 _ T7.heap _
    rw [e7]
    exact ⟨rfl, N0, rfl⟩
theorem d3_23 : decode prog_64_method_2_code 23 = .ok (.iconst 1, 1) := by decide +kernel
theorem d3_24 : decode prog_64_method_2_code 24 = .ok (.goto 4, 3) := by decide +kernel
set_option maxRecDepth 65536 in
set_option maxHeartbeats 40000000 in
theorem rm3_ff (l : Launch) (Z : State) (a0 : Array Value) (hw : ∀ d ∈ tables_1, d.before a0 Z = true) (ws : List Jvm.Cond) (a1 : Addr) (w2 : UInt64) (w6 : UInt64) (h0 : Heap) (n0 : Nat) (Z0 : n0 ≤ h0.size) (F_recentWaitNanos_a1 : Fld Z h0 a1 "com/example/tanager/tanager/Polling" "recentWaitNanos" "D" (.double w2)) (S_NANOS : Sta Z h0 "com/example/tanager/tanager/Polling" "NANOS" "J" (.long (30000 : Int64))) (F_recentCalls_a1 : Fld Z h0 a1 "com/example/tanager/tanager/Polling" "recentCalls" "D" (.double w6)) (hc9 : (cmpValue (FP.dcmp w2 (FP.l2d (30000 : Int64))) .g) < (0 : Int32)) (hc20 : (cmpValue (FP.dcmp w6 (4609434218613702656 : UInt64)) .g) < (0 : Int32)) :
    MetFree l (⟨"com/example/tanager/tanager/Polling", "worthIt", "()Z"⟩ : MethodName) (head1 (Jvm.Cond.code (⟨"com/example/tanager/tanager/Polling", "worthIt", "()Z"⟩ : MethodName) prog_64_method_2_code 1 (some .boolean) :: ws) ({ frames := 0, cells := 0, slots := 0, locals := 0 } : Room)) (fun a U => a = #[(.ref a1)] ∧ Z.Warmed39 U.vm ∧ U.heap = h0) (fun _ _ _ _ _ => True) (fun _ U o U' => ∃ v L, o = .returned v ∧ QP (some (.int (1 : Int32))) h0 n0 v U'.heap L ∧ FrameEnd U o U' L ({ frames := 0, cells := 0, slots := 0, locals := 0 } : Room).cells ({ frames := 0, cells := 0, slots := 0, locals := 0 } : Room).slots) := by
  refine MetFree.of_bodySF (plainFor_of_name pn_3) hisR ?_
  intro p e s m args below meth c s₁ Bd hml0 hP hK
  obtain ⟨rfl, hZ, hh⟩ := hP
  have hx := Bd.exec
  have hby := Bd.bytes
  have hml : c.maxLocals = 1 := hml0
  have hown : s.vm.findClass "com/example/tanager/tanager/Polling" = some m.cls := findClass_of_methodNamed Bd.named
  have hnm := (name_of_methodNamed Bd.named Bd.method).1
  have X0 : Stand p l e ({ frames := 0, cells := 0, slots := 0, locals := 0 } : Room) s m #[(.ref a1)] below meth c s₁ [] 0 0 := Stand.of_body Bd
  have e0 : s₁.heap = h0 := by rw [← hh, Bd.state]; rfl
  have N0 := Fr.nil n0
  have pre0 : ∀ t, Steps p.tables e below (s₁.setTop (mkF m 0 #[.val (.ref a1)] [])) t → Steps p.tables e below (s₁.setTop (entryFrame m #[(.ref a1)] 1)) t := fun t k => castTop (ef_3 m a1) k
  obtain ⟨T3, X3, e3, st3⟩ := getF X0 hx hZ hown (host := "") (Or.inl (hw _ (List.mem_of_getElem? (i := 12) rfl))) Via.refl e0 F_recentWaitNanos_a1 (g := (mkF m 1 #[.val (.ref a1)] [(.ref a1)])) rfl rfl (hb hby d3_1)
  obtain ⟨T5, X5, e5, st5⟩ := getS2 X3 hx hZ hown (host := "") (Or.inl (hw _ (List.mem_of_getElem? (i := 21) rfl))) Via.refl e3 S_NANOS (g := (mkF m 4 #[.val (.ref a1)] [(.double w2)])) rfl (hb hby d3_4)
  obtain ⟨T7, X7, e7, st7⟩ := getF X5 hx hZ hown (host := "") (Or.inl (hw _ (List.mem_of_getElem? (i := 14) rfl))) Via.refl e5 F_recentCalls_a1 (g := (mkF m 13 #[.val (.ref a1)] [(.ref a1)])) rfl rfl (hb hby d3_13)
  obtain ⟨fs, hr, hrun, hended, hW, hsame⟩ := X7.leave (v := some (.int (1 : Int32))) (fun h => by rw [Bd.returns] at h; cases h)
  refine ⟨_, _, pre0 _ ?_, hrun, hended, _, _, rfl, ?_, ⟨_, rfl⟩, hW, hsame.mono (by decide) (by decide)⟩
  · show Steps p.tables e below (s₁.setTop (mkF m 0 #[.val (.ref a1)] [])) _
    refine XS.aloadN X0.here hx rfl (hb hby d3_0) rfl rfl ?_
    show Steps p.tables e below (s₁.setTop (mkF m 1 #[.val (.ref a1)] [(.ref a1)])) _
    refine st3 _ ?_
    show Steps p.tables e below (T3.setTop (mkF m 4 #[.val (.ref a1)] [(.double w2)])) _
    refine st5 _ ?_
    show Steps p.tables e below (T5.setTop (mkF m 7 #[.val (.ref a1)] [(.long (30000 : Int64)), (.double w2)])) _
    refine XS.l2dS X5.here hx rfl (hb hby d3_7) rfl rfl ?_
    show Steps p.tables e below (T5.setTop (mkF m 8 #[.val (.ref a1)] [(.double (FP.l2d (30000 : Int64))), (.double w2)])) _
    refine XS.dcmpS X5.here hx rfl (hb hby d3_8) rfl rfl ?_
    show Steps p.tables e below (T5.setTop (mkF m 9 #[.val (.ref a1)] [(.int (cmpValue (FP.dcmp w2 (FP.l2d (30000 : Int64))) .g))])) _
    refine XS.ifNo X5.here hx rfl (hb hby d3_9) rfl ((if0 _ _).trans (tlt hc9).2.1) ?_
    show Steps p.tables e below (T5.setTop (mkF m 12 #[.val (.ref a1)] [])) _
    refine XS.aloadN X5.here hx rfl (hb hby d3_12) rfl rfl ?_
    show Steps p.tables e below (T5.setTop (mkF m 13 #[.val (.ref a1)] [(.ref a1)])) _
    refine st7 _ ?_
    show Steps p.tables e below (T7.setTop (mkF m 16 #[.val (.ref a1)] [(.double w6)])) _
    refine X7.ldc2DoubleC hx hown (mvT hZ (hw _ (List.mem_of_getElem? (i := 39) rfl))) (g := (mkF m 16 #[.val (.ref a1)] [(.double w6)])) rfl (hb hby d3_16) _ ?_
    show Steps p.tables e below (T7.setTop (mkF m 19 #[.val (.ref a1)] [(.double (4609434218613702656 : UInt64)), (.double w6)])) _
    refine XS.dcmpS X7.here hx rfl (hb hby d3_19) rfl rfl ?_
    show Steps p.tables e below (T7.setTop (mkF m 20 #[.val (.ref a1)] [(.int (cmpValue (FP.dcmp w6 (4609434218613702656 : UInt64)) .g))])) _
    refine XS.ifNo X7.here hx rfl (hb hby d3_20) rfl ((if0 _ _).trans (tlt hc20).2.1) ?_
    show Steps p.tables e below (T7.setTop (mkF m 23 #[.val (.ref a1)] [])) _
    refine XS.iconst X7.here hx rfl (hb hby d3_23) ?_
    show Steps p.tables e below (T7.setTop (mkF m 24 #[.val (.ref a1)] [(.int (1 : Int32))])) _
    refine XS.goto X7.here hx rfl (pc0 := 24) (pc' := 28) rfl (hb hby d3_24) (by decide) (by decide) ?_
    show Steps p.tables e below (T7.setTop (mkF m 28 #[.val (.ref a1)] [(.int (1 : Int32))])) _
    exact retN X7 hx (t := .boolean) Bd.returns (by simp) (hb hby d3_28) hr
  · show QP (some (.int (1 : Int32))) h0 n0 _ T7.heap _
    rw [e7]
    exact ⟨rfl, N0, rfl⟩
theorem rm3 (l : Launch) (Z : State) (a0 : Array Value) (hw : ∀ d ∈ tables_1, d.before a0 Z = true) (ws : List Jvm.Cond) (a1 : Addr) (w2 : UInt64) (w6 : UInt64) (h0 : Heap) (n0 : Nat) (Z0 : n0 ≤ h0.size) (F_w : Fld Z h0 a1 "com/example/tanager/tanager/Polling" "recentWaitNanos" "D" (.double w2)) (S_n : Sta Z h0 "com/example/tanager/tanager/Polling" "NANOS" "J" (.long (30000 : Int64))) (F_c : Fld Z h0 a1 "com/example/tanager/tanager/Polling" "recentCalls" "D" (.double w6)) :
    MetFree l (⟨"com/example/tanager/tanager/Polling", "worthIt", "()Z"⟩ : MethodName) (head1 (Jvm.Cond.code (⟨"com/example/tanager/tanager/Polling", "worthIt", "()Z"⟩ : MethodName) prog_64_method_2_code 1 (some .boolean) :: ws) ({ frames := 0, cells := 0, slots := 0, locals := 0 } : Room)) (fun a U => a = #[(.ref a1)] ∧ Z.Warmed39 U.vm ∧ U.heap = h0) (fun _ _ _ _ _ => True) (fun _ U o U' => ∃ v L, o = .returned v ∧ QP (some (.int (F3 w2 w6))) h0 n0 v U'.heap L ∧ FrameEnd U o U' L ({ frames := 0, cells := 0, slots := 0, locals := 0 } : Room).cells ({ frames := 0, cells := 0, slots := 0, locals := 0 } : Room).slots) := by
  by_cases h9 : cmpValue (FP.dcmp w2 (FP.l2d (30000 : Int64))) .g < (0 : Int32)
  · by_cases h20 : cmpValue (FP.dcmp w6 (4609434218613702656 : UInt64)) .g < (0 : Int32)
    · rw [show F3 w2 w6 = 1 from (if_pos h9).trans (if_pos h20)]; exact rm3_ff l Z a0 hw ws a1 w2 w6 h0 n0 Z0 F_w S_n F_c h9 h20
    · rw [show F3 w2 w6 = 0 from (if_pos h9).trans (if_neg h20)]; exact rm3_ft l Z a0 hw ws a1 w2 w6 h0 n0 Z0 F_w S_n F_c h9 h20
  · rw [show F3 w2 w6 = 0 from if_neg h9]; exact rm3_t l Z a0 hw ws a1 w2 h0 n0 Z0 F_w S_n h9
theorem d5_0 : decode jdk_29_method_70_code 0 = .ok (.lload_n 0, 1) := by decide +kernel
theorem d5_1 : decode jdk_29_method_70_code 1 = .ok (.lload_n 2, 1) := by decide +kernel
theorem d5_2 : decode jdk_29_method_70_code 2 = .ok (.lcmp, 1) := by decide +kernel
theorem d5_3 : decode jdk_29_method_70_code 3 = .ok (.ifCond .gt 7, 3) := by decide +kernel
theorem d5_10 : decode jdk_29_method_70_code 10 = .ok (.lload_n 2, 1) := by decide +kernel
theorem d5_11 : decode jdk_29_method_70_code 11 = .ok (.lreturn, 1) := by decide +kernel
theorem ef_5 (m : MethodId) (x0 : Int64) (x1 : Int64) : entryFrame m #[(.long x0), (.long x1)] 4 = mkF m 0 #[.val (.long x0), .second, .val (.long x1), .second] [] := by first | (simp [entryFrame, mkF, argsToLocals, Value.category]; done) | rfl
set_option maxRecDepth 65536 in
set_option maxHeartbeats 40000000 in
theorem rm5_t (l : Launch) (Z : State) (a0 : Array Value) (hw : ∀ d ∈ tables_1, d.before a0 Z = true) (ws : List Jvm.Cond) (q1 : Int64) (q2 : Int64) (h0 : Heap) (n0 : Nat) (Z0 : n0 ≤ h0.size) (hc3 : (0 : Int32) < (lcmpW q1 q2)) :
    MetFree l (⟨"java/lang/Math", "min", "(JJ)J"⟩ : MethodName) (head1 (Jvm.Cond.code (⟨"java/lang/Math", "min", "(JJ)J"⟩ : MethodName) jdk_29_method_70_code 4 (some .long) :: ws) ({ frames := 0, cells := 0, slots := 0, locals := 0 } : Room)) (fun a U => a = #[(.long q1), (.long q2)] ∧ Z.Warmed39 U.vm ∧ U.heap = h0) (fun _ _ _ _ _ => True) (fun _ U o U' => ∃ v L, o = .returned v ∧ QP (some (.long q2)) h0 n0 v U'.heap L ∧ FrameEnd U o U' L ({ frames := 0, cells := 0, slots := 0, locals := 0 } : Room).cells ({ frames := 0, cells := 0, slots := 0, locals := 0 } : Room).slots) := by
  refine MetFree.of_bodySF (Jvm.Free.JP.mathPlain rfl (by decide +kernel)) hisR ?_
  intro p e s m args below meth c s₁ Bd hml0 hP hK
  obtain ⟨rfl, hZ, hh⟩ := hP
  have hx := Bd.exec
  have hby := Bd.bytes
  have hml : c.maxLocals = 4 := hml0
  have hown : s.vm.findClass "java/lang/Math" = some m.cls := findClass_of_methodNamed Bd.named
  have hnm := (name_of_methodNamed Bd.named Bd.method).1
  have X0 : Stand p l e ({ frames := 0, cells := 0, slots := 0, locals := 0 } : Room) s m #[(.long q1), (.long q2)] below meth c s₁ [] 0 0 := Stand.of_body Bd
  have e0 : s₁.heap = h0 := by rw [← hh, Bd.state]; rfl
  have N0 := Fr.nil n0
  have pre0 : ∀ t, Steps p.tables e below (s₁.setTop (mkF m 0 #[.val (.long q1), .second, .val (.long q2), .second] [])) t → Steps p.tables e below (s₁.setTop (entryFrame m #[(.long q1), (.long q2)] 4)) t := fun t k => castTop (ef_5 m q1 q2) k

  obtain ⟨fs, hr, hrun, hended, hW, hsame⟩ := X0.leave (v := some (.long q2)) (fun h => by rw [Bd.returns] at h; cases h)
  refine ⟨_, _, pre0 _ ?_, hrun, hended, _, _, rfl, ?_, ⟨_, rfl⟩, hW, hsame.mono (by decide) (by decide)⟩
  · show Steps p.tables e below (s₁.setTop (mkF m 0 #[.val (.long q1), .second, .val (.long q2), .second] [])) _
    refine XS.lloadN X0.here hx rfl (hb hby d5_0) rfl ?_
    show Steps p.tables e below (s₁.setTop (mkF m 1 #[.val (.long q1), .second, .val (.long q2), .second] [(.long q1)])) _
    refine XS.lloadN X0.here hx rfl (hb hby d5_1) rfl ?_
    show Steps p.tables e below (s₁.setTop (mkF m 2 #[.val (.long q1), .second, .val (.long q2), .second] [(.long q2), (.long q1)])) _
    refine XS.lcmp X0.here hx rfl (hb hby d5_2) rfl ?_
    show Steps p.tables e below (s₁.setTop (mkF m 3 #[.val (.long q1), .second, .val (.long q2), .second] [(.int (lcmpW q1 q2))])) _
    refine XS.ifYes X0.here hx rfl (pc0 := 3) (pc' := 10) rfl (hb hby d5_3) rfl ((if0 _ _).trans (tlt hc3).2.2.1) (by decide) (by decide) ?_
    show Steps p.tables e below (s₁.setTop (mkF m 10 #[.val (.long q1), .second, .val (.long q2), .second] [])) _
    refine XS.lloadN X0.here hx rfl (hb hby d5_10) rfl ?_
    show Steps p.tables e below (s₁.setTop (mkF m 11 #[.val (.long q1), .second, .val (.long q2), .second] [(.long q2)])) _
    exact retOut X0 hx Bd.returns rfl (Or.inr (Or.inl ⟨rfl, rfl, _, rfl⟩)) (hb hby d5_11) hr
  · show QP (some (.long q2)) h0 n0 _ s₁.heap _
    rw [e0]
    exact ⟨rfl, N0, rfl⟩
theorem d5_6 : decode jdk_29_method_70_code 6 = .ok (.lload_n 0, 1) := by decide +kernel
theorem d5_7 : decode jdk_29_method_70_code 7 = .ok (.goto 4, 3) := by decide +kernel
set_option maxRecDepth 65536 in
set_option maxHeartbeats 40000000 in
theorem rm5_f (l : Launch) (Z : State) (a0 : Array Value) (hw : ∀ d ∈ tables_1, d.before a0 Z = true) (ws : List Jvm.Cond) (q1 : Int64) (q2 : Int64) (h0 : Heap) (n0 : Nat) (Z0 : n0 ≤ h0.size) (hc3 : ¬ ((0 : Int32) < (lcmpW q1 q2))) :
    MetFree l (⟨"java/lang/Math", "min", "(JJ)J"⟩ : MethodName) (head1 (Jvm.Cond.code (⟨"java/lang/Math", "min", "(JJ)J"⟩ : MethodName) jdk_29_method_70_code 4 (some .long) :: ws) ({ frames := 0, cells := 0, slots := 0, locals := 0 } : Room)) (fun a U => a = #[(.long q1), (.long q2)] ∧ Z.Warmed39 U.vm ∧ U.heap = h0) (fun _ _ _ _ _ => True) (fun _ U o U' => ∃ v L, o = .returned v ∧ QP (some (.long q1)) h0 n0 v U'.heap L ∧ FrameEnd U o U' L ({ frames := 0, cells := 0, slots := 0, locals := 0 } : Room).cells ({ frames := 0, cells := 0, slots := 0, locals := 0 } : Room).slots) := by
  refine MetFree.of_bodySF (Jvm.Free.JP.mathPlain rfl (by decide +kernel)) hisR ?_
  intro p e s m args below meth c s₁ Bd hml0 hP hK
  obtain ⟨rfl, hZ, hh⟩ := hP
  have hx := Bd.exec
  have hby := Bd.bytes
  have hml : c.maxLocals = 4 := hml0
  have hown : s.vm.findClass "java/lang/Math" = some m.cls := findClass_of_methodNamed Bd.named
  have hnm := (name_of_methodNamed Bd.named Bd.method).1
  have X0 : Stand p l e ({ frames := 0, cells := 0, slots := 0, locals := 0 } : Room) s m #[(.long q1), (.long q2)] below meth c s₁ [] 0 0 := Stand.of_body Bd
  have e0 : s₁.heap = h0 := by rw [← hh, Bd.state]; rfl
  have N0 := Fr.nil n0
  have pre0 : ∀ t, Steps p.tables e below (s₁.setTop (mkF m 0 #[.val (.long q1), .second, .val (.long q2), .second] [])) t → Steps p.tables e below (s₁.setTop (entryFrame m #[(.long q1), (.long q2)] 4)) t := fun t k => castTop (ef_5 m q1 q2) k

  obtain ⟨fs, hr, hrun, hended, hW, hsame⟩ := X0.leave (v := some (.long q1)) (fun h => by rw [Bd.returns] at h; cases h)
  refine ⟨_, _, pre0 _ ?_, hrun, hended, _, _, rfl, ?_, ⟨_, rfl⟩, hW, hsame.mono (by decide) (by decide)⟩
  · show Steps p.tables e below (s₁.setTop (mkF m 0 #[.val (.long q1), .second, .val (.long q2), .second] [])) _
    refine XS.lloadN X0.here hx rfl (hb hby d5_0) rfl ?_
    show Steps p.tables e below (s₁.setTop (mkF m 1 #[.val (.long q1), .second, .val (.long q2), .second] [(.long q1)])) _
    refine XS.lloadN X0.here hx rfl (hb hby d5_1) rfl ?_
    show Steps p.tables e below (s₁.setTop (mkF m 2 #[.val (.long q1), .second, .val (.long q2), .second] [(.long q2), (.long q1)])) _
    refine XS.lcmp X0.here hx rfl (hb hby d5_2) rfl ?_
    show Steps p.tables e below (s₁.setTop (mkF m 3 #[.val (.long q1), .second, .val (.long q2), .second] [(.int (lcmpW q1 q2))])) _
    refine XS.ifNo X0.here hx rfl (hb hby d5_3) rfl ((if0 _ _).trans (flt hc3).2.2.1) ?_
    show Steps p.tables e below (s₁.setTop (mkF m 6 #[.val (.long q1), .second, .val (.long q2), .second] [])) _
    refine XS.lloadN X0.here hx rfl (hb hby d5_6) rfl ?_
    show Steps p.tables e below (s₁.setTop (mkF m 7 #[.val (.long q1), .second, .val (.long q2), .second] [(.long q1)])) _
    refine XS.goto X0.here hx rfl (pc0 := 7) (pc' := 11) rfl (hb hby d5_7) (by decide) (by decide) ?_
    show Steps p.tables e below (s₁.setTop (mkF m 11 #[.val (.long q1), .second, .val (.long q2), .second] [(.long q1)])) _
    exact retOut X0 hx Bd.returns rfl (Or.inr (Or.inl ⟨rfl, rfl, _, rfl⟩)) (hb hby d5_11) hr
  · show QP (some (.long q1)) h0 n0 _ s₁.heap _
    rw [e0]
    exact ⟨rfl, N0, rfl⟩
theorem rm5 (l : Launch) (Z : State) (a0 : Array Value) (hw : ∀ d ∈ tables_1, d.before a0 Z = true) (ws : List Jvm.Cond) (q1 : Int64) (q2 : Int64) (h0 : Heap) (n0 : Nat) (Z0 : n0 ≤ h0.size) :
    MetFree l (⟨"java/lang/Math", "min", "(JJ)J"⟩ : MethodName) (head1 (Jvm.Cond.code (⟨"java/lang/Math", "min", "(JJ)J"⟩ : MethodName) jdk_29_method_70_code 4 (some .long) :: ws) ({ frames := 0, cells := 0, slots := 0, locals := 0 } : Room)) (fun a U => a = #[(.long q1), (.long q2)] ∧ Z.Warmed39 U.vm ∧ U.heap = h0) (fun _ _ _ _ _ => True) (fun _ U o U' => ∃ v L, o = .returned v ∧ QP (some (.long (F5 q1 q2))) h0 n0 v U'.heap L ∧ FrameEnd U o U' L ({ frames := 0, cells := 0, slots := 0, locals := 0 } : Room).cells ({ frames := 0, cells := 0, slots := 0, locals := 0 } : Room).slots) := by
  by_cases h3 : (0 : Int32) < lcmpW q1 q2
  · rw [show F5 q1 q2 = q2 from if_pos h3]; exact rm5_t l Z a0 hw ws q1 q2 h0 n0 Z0 h3
  · rw [show F5 q1 q2 = q1 from if_neg h3]; exact rm5_f l Z a0 hw ws q1 q2 h0 n0 Z0 h3
theorem d4_0 : decode prog_64_method_3_code 0 = .ok (.aload_n 0, 1) := by decide +kernel
theorem d4_1 : decode prog_64_method_3_code 1 = .ok (.getfield 13, 3) := by decide +kernel
theorem d4_4 : decode prog_64_method_3_code 4 = .ok (.dstore_n 3, 1) := by decide +kernel
theorem d4_5 : decode prog_64_method_3_code 5 = .ok (.aload_n 0, 1) := by decide +kernel
theorem d4_6 : decode prog_64_method_3_code 6 = .ok (.dload_n 3, 1) := by decide +kernel
theorem d4_7 : decode prog_64_method_3_code 7 = .ok (.lload_n 1, 1) := by decide +kernel
theorem d4_8 : decode prog_64_method_3_code 8 = .ok (.getstatic 7, 3) := by decide +kernel
theorem d4_11 : decode prog_64_method_3_code 11 = .ok (.invokestatic 25, 3) := by decide +kernel
theorem d4_14 : decode prog_64_method_3_code 14 = .ok (.l2d, 1) := by decide +kernel
theorem d4_15 : decode prog_64_method_3_code 15 = .ok (.dload_n 3, 1) := by decide +kernel
theorem d4_16 : decode prog_64_method_3_code 16 = .ok (.dsub, 1) := by decide +kernel
theorem d4_17 : decode prog_64_method_3_code 17 = .ok (.ldc2_w 31, 3) := by decide +kernel
theorem d4_20 : decode prog_64_method_3_code 20 = .ok (.ddiv, 1) := by decide +kernel
theorem d4_21 : decode prog_64_method_3_code 21 = .ok (.dadd, 1) := by decide +kernel
theorem d4_22 : decode prog_64_method_3_code 22 = .ok (.putfield 13, 3) := by decide +kernel
theorem d4_25 : decode prog_64_method_3_code 25 = .ok (.return_, 1) := by decide +kernel
theorem pn_4 : plainName "com/example/tanager/tanager/Polling" = true := by first | (simp [plainName, overriddenIn]; done) | decide +kernel
theorem pd_4_3 : parseMethodDescriptor "(JJ)J" = some ⟨[.long, .long], some .long⟩ := by decide +kernel
theorem ef_4 (m : MethodId) (x0 : Addr) (x1 : Int64) : entryFrame m #[(.ref x0), (.long x1)] 5 = mkF m 0 #[.val (.ref x0), .val (.long x1), .second, .unset, .unset] [] := by first | (simp [entryFrame, mkF, argsToLocals, Value.category]; done) | rfl
def Q4 (Z : State) (a1 : Addr) (r21 wc : UInt64) (h0 : Heap) (n0 : Nat) (v : Option Value) (h : Heap) (L : List Loc) : Prop := v = none ∧ Fr n0 L ∧ Keep h0 h [a1] ∧ Exa Z h a1 "com/example/tanager/tanager/Polling" ∧ Fld Z h a1 "com/example/tanager/tanager/Polling" "recentWaitNanos" "D" (.double r21) ∧ Fld Z h a1 "com/example/tanager/tanager/Polling" "recentCalls" "D" (.double wc)
set_option maxRecDepth 65536 in
set_option maxHeartbeats 40000000 in
theorem rm4 (l : Launch) (Z : State) (a0 : Array Value) (hw : ∀ d ∈ tables_1, d.before a0 Z = true) (ws : List Jvm.Cond) (a1 : Addr) (q2 : Int64) (w3 : UInt64) (r16 : UInt64) (r20 : UInt64) (r21 : UInt64) (wc : UInt64) (h0 : Heap) (n0 : Nat) (Z0 : n0 ≤ h0.size) (F_recentWaitNanos_a1 : Fld Z h0 a1 "com/example/tanager/tanager/Polling" "recentWaitNanos" "D" (.double w3)) (S_LONGEST_WAIT_COUNTED : Sta Z h0 "com/example/tanager/tanager/Polling" "LONGEST_WAIT_COUNTED" "J" (.long (240000 : Int64))) (E_a1 : Exa Z h0 a1 "com/example/tanager/tanager/Polling") (F_recentCalls_a1 : Fld Z h0 a1 "com/example/tanager/tanager/Polling" "recentCalls" "D" (.double wc)) (g_a1 : n0 ≤ a1) (hv16 : (FP.dsub (FP.l2d (F5 q2 (240000 : Int64))) w3) = r16) (hn16 : Jvm.Free.Fl.NoNaN64 (FP.dsub (FP.l2d (F5 q2 (240000 : Int64))) w3)) (hv20 : (FP.ddiv r16 (4620693217682128896 : UInt64)) = r20) (hn20 : Jvm.Free.Fl.NoNaN64 (FP.ddiv r16 (4620693217682128896 : UInt64))) (hv21 : (FP.dadd w3 r20) = r21) (hn21 : Jvm.Free.Fl.NoNaN64 (FP.dadd w3 r20)) :
    MetFree l (⟨"com/example/tanager/tanager/Polling", "waited", "(J)V"⟩ : MethodName) (head1 (Jvm.Cond.code (⟨"com/example/tanager/tanager/Polling", "waited", "(J)V"⟩ : MethodName) prog_64_method_3_code 5 none :: ws) ({ frames := 1, cells := 0, slots := 0, locals := 18 } : Room)) (fun a U => a = #[(.ref a1), (.long q2)] ∧ Z.Warmed39 U.vm ∧ U.heap = h0) (fun _ _ _ _ _ => True) (fun _ U o U' => ∃ v L, o = .returned v ∧ Q4 Z a1 r21 wc h0 n0 v U'.heap L ∧ FrameEnd U o U' L ({ frames := 1, cells := 0, slots := 0, locals := 18 } : Room).cells ({ frames := 1, cells := 0, slots := 0, locals := 18 } : Room).slots) := by
  refine MetFree.of_bodySF (plainFor_of_name pn_4) hisR ?_
  intro p e s m args below meth c s₁ Bd hml0 hP hK
  obtain ⟨rfl, hZ, hh⟩ := hP
  have hx := Bd.exec
  have hby := Bd.bytes
  have hml : c.maxLocals = 5 := hml0
  have hown : s.vm.findClass "com/example/tanager/tanager/Polling" = some m.cls := findClass_of_methodNamed Bd.named
  have hnm := (name_of_methodNamed Bd.named Bd.method).1
  have X0 : Stand p l e ({ frames := 1, cells := 0, slots := 0, locals := 18 } : Room) s m #[(.ref a1), (.long q2)] below meth c s₁ [] 0 0 := Stand.of_body Bd
  have e0 : s₁.heap = h0 := by rw [← hh, Bd.state]; rfl
  have N0 := Fr.nil n0
  have pre0 : ∀ t, Steps p.tables e below (s₁.setTop (mkF m 0 #[.val (.ref a1), .val (.long q2), .second, .unset, .unset] [])) t → Steps p.tables e below (s₁.setTop (entryFrame m #[(.ref a1), (.long q2)] 5)) t := fun t k => castTop (ef_4 m a1 q2) k
  obtain ⟨T4, X4, e4, st4⟩ := getF X0 hx hZ hown (host := "") (Or.inl (hw _ (List.mem_of_getElem? (i := 12) rfl))) Via.refl e0 F_recentWaitNanos_a1 (g := (mkF m 1 #[.val (.ref a1), .val (.long q2), .second, .unset, .unset] [(.ref a1)])) rfl rfl (hb hby d4_1)
  obtain ⟨T6, X6, e6, st6⟩ := getS2 X4 hx hZ hown (host := "") (Or.inl (hw _ (List.mem_of_getElem? (i := 10) rfl))) Via.refl e4 S_LONGEST_WAIT_COUNTED (g := (mkF m 8 #[.val (.ref a1), .val (.long q2), .second, .val (.double w3), .second] [(.long q2), (.double w3), (.ref a1)])) rfl (hb hby d4_8)
  obtain ⟨_, _, ⟨T7, L7, k7, n7⟩, -, X7, ⟨Lc7, hQ7, l7, y7, z7⟩, st7⟩ := Jvm.LawKit.callS X6 hx (y := (⟨"java/lang/Math", "min", "(JJ)J"⟩ : MethodName)) hown (mvT hZ (hw _ (List.mem_of_getElem? (i := 28) rfl))) (mvT hZ (hw _ (List.mem_of_getElem? (i := 29) rfl))) (mvT hZ (hw _ (List.mem_of_getElem? (i := 30) rfl))) (mvT hZ (hw _ (List.mem_of_getElem? (i := 31) rfl))) (by decide) (backOf (W := 3) (rm5 l Z a0 hw [] q2 (240000 : Int64) h0 n0 Z0) hZ (hw _ (List.mem_of_getElem? (i := 31) rfl)) (hw _ (List.mem_of_getElem? (i := 30) rfl)) (by decide) (by decide)) (g := (mkF m 11 #[.val (.ref a1), .val (.long q2), .second, .val (.double w3), .second] [(.long (240000 : Int64)), (.long q2), (.double w3), (.ref a1)])) rfl (by rw [hml]; rfl) (argsL := [(.long q2), (.long (240000 : Int64))]) (rest := [(.double w3), (.ref a1)]) (lenOf pd_4_3 rfl) rfl (by show 2 * 0 + _ ≤ _; exact Nat.le_of_eq rfl) (hb hby d4_11) (fun _ _ => ⟨rfl, e6, (by decide : 0 + 0 ≤ _), (by decide : 0 + 0 ≤ _)⟩)
  dsimp only [Pt.U, Pt.locs, Pt.cells, Pt.slots] at X7 l7 y7 z7 st7 hQ7
  subst l7 y7 z7
  obtain ⟨rfl, N7q, eh7⟩ := hQ7
  have K7c : Keep h0 T7.heap [] := by rw [eh7]; exact Keep.refl _ _
  have N7 := Fr.app N0 N7q
  obtain ⟨T8, h8, X8, e8, W8, st8⟩ := putF X7 hx hZ hown (host := "") (Or.inl (hw _ (List.mem_of_getElem? (i := 12) rfl))) Via.refl rfl (F_recentWaitNanos_a1.keep K7c (by simp)) (E_a1.keep K7c) (Or.inl (hw _ (List.mem_of_getElem? (i := 13) rfl))) (hw _ (List.mem_of_getElem? (i := 2) rfl)) (ty := .double) (by decide) rfl rfl (g := (mkF m 22 #[.val (.ref a1), .val (.long q2), .second, .val (.double w3), .second] [(.double r21), (.ref a1)])) rfl rfl (hb hby d4_22)
  have Fw8 := (F_recentWaitNanos_a1.keep K7c (by simp)).same W8
  have K8 : Keep h0 h8 [a1] := (show Keep h0 T7.heap [a1] by rw [eh7]; exact Keep.refl _ _).wr W8 (Or.inl (List.mem_of_getElem? (i := 0) rfl))
  have N8 := Fr.snoc X8 N7 g_a1
  obtain ⟨fs, hr, hrun, hended, hW, hsame⟩ := X8.leave (v := none) (fun _ => rfl)
  refine ⟨_, _, pre0 _ ?_, hrun, hended, _, _, rfl, ?_, ⟨_, rfl⟩, hW, hsame.mono (by decide) (by decide)⟩
  · show Steps p.tables e below (s₁.setTop (mkF m 0 #[.val (.ref a1), .val (.long q2), .second, .unset, .unset] [])) _
    refine XS.aloadN X0.here hx rfl (hb hby d4_0) rfl rfl ?_
    show Steps p.tables e below (s₁.setTop (mkF m 1 #[.val (.ref a1), .val (.long q2), .second, .unset, .unset] [(.ref a1)])) _
    refine st4 _ ?_
    show Steps p.tables e below (T4.setTop (mkF m 4 #[.val (.ref a1), .val (.long q2), .second, .unset, .unset] [(.double w3)])) _
    refine XS.dstoreN X4.here hx rfl (hb hby d4_4) rfl (l' := #[.val (.ref a1), .val (.long q2), .second, .val (.double w3), .second]) rfl ?_
    show Steps p.tables e below (T4.setTop (mkF m 5 #[.val (.ref a1), .val (.long q2), .second, .val (.double w3), .second] [])) _
    refine XS.aloadN X4.here hx rfl (hb hby d4_5) rfl rfl ?_
    show Steps p.tables e below (T4.setTop (mkF m 6 #[.val (.ref a1), .val (.long q2), .second, .val (.double w3), .second] [(.ref a1)])) _
    refine XS.dloadN X4.here hx rfl (hb hby d4_6) rfl ?_
    show Steps p.tables e below (T4.setTop (mkF m 7 #[.val (.ref a1), .val (.long q2), .second, .val (.double w3), .second] [(.double w3), (.ref a1)])) _
    refine XS.lloadN X4.here hx rfl (hb hby d4_7) rfl ?_
    show Steps p.tables e below (T4.setTop (mkF m 8 #[.val (.ref a1), .val (.long q2), .second, .val (.double w3), .second] [(.long q2), (.double w3), (.ref a1)])) _
    refine st6 _ ?_
    show Steps p.tables e below (T6.setTop (mkF m 11 #[.val (.ref a1), .val (.long q2), .second, .val (.double w3), .second] [(.long (240000 : Int64)), (.long q2), (.double w3), (.ref a1)])) _
    refine st7 _ ?_
    show Steps p.tables e below (T7.setTop (mkF m 14 #[.val (.ref a1), .val (.long q2), .second, .val (.double w3), .second] [(.long (F5 q2 (240000 : Int64))), (.double w3), (.ref a1)])) _
    refine XS.l2dS X7.here hx rfl (hb hby d4_14) rfl rfl ?_
    show Steps p.tables e below (T7.setTop (mkF m 15 #[.val (.ref a1), .val (.long q2), .second, .val (.double w3), .second] [(.double (FP.l2d (F5 q2 (240000 : Int64)))), (.double w3), (.ref a1)])) _
    refine XS.dloadN X7.here hx rfl (hb hby d4_15) rfl ?_
    show Steps p.tables e below (T7.setTop (mkF m 16 #[.val (.ref a1), .val (.long q2), .second, .val (.double w3), .second] [(.double w3), (.double (FP.l2d (F5 q2 (240000 : Int64)))), (.double w3), (.ref a1)])) _
    refine XS.dsubS X7.here hx rfl (hb hby d4_16) rfl hn16 hv16 ?_
    show Steps p.tables e below (T7.setTop (mkF m 17 #[.val (.ref a1), .val (.long q2), .second, .val (.double w3), .second] [(.double r16), (.double w3), (.ref a1)])) _
    refine X7.ldc2DoubleC hx hown (mvT hZ (hw _ (List.mem_of_getElem? (i := 32) rfl))) (g := (mkF m 17 #[.val (.ref a1), .val (.long q2), .second, .val (.double w3), .second] [(.double r16), (.double w3), (.ref a1)])) rfl (hb hby d4_17) _ ?_
    show Steps p.tables e below (T7.setTop (mkF m 20 #[.val (.ref a1), .val (.long q2), .second, .val (.double w3), .second] [(.double (4620693217682128896 : UInt64)), (.double r16), (.double w3), (.ref a1)])) _
    refine XS.ddivS X7.here hx rfl (hb hby d4_20) rfl hn20 hv20 ?_
    show Steps p.tables e below (T7.setTop (mkF m 21 #[.val (.ref a1), .val (.long q2), .second, .val (.double w3), .second] [(.double r20), (.double w3), (.ref a1)])) _
    refine XS.daddS X7.here hx rfl (hb hby d4_21) rfl hn21 hv21 ?_
    show Steps p.tables e below (T7.setTop (mkF m 22 #[.val (.ref a1), .val (.long q2), .second, .val (.double w3), .second] [(.double r21), (.ref a1)])) _
    refine st8 _ ?_
    show Steps p.tables e below (T8.setTop (mkF m 25 #[.val (.ref a1), .val (.long q2), .second, .val (.double w3), .second] [])) _
    exact X8.returnOut hx Bd.returns (hb hby d4_25) hr
  · show Q4 Z a1 r21 wc h0 n0 _ T8.heap _
    rw [e8]
    exact ⟨rfl, N8, K8, ((E_a1.keep K7c).wr W8), Fw8, ((F_recentCalls_a1.keep K7c (by simp)).other W8 (Or.inr (slot_ne (Or.inl (hw _ (List.mem_of_getElem? (i := 15) rfl))) (Or.inl (hw _ (List.mem_of_getElem? (i := 13) rfl))) (by decide) (t := .double) (t' := .double) (by decide) (by decide))))⟩
theorem d6_0 : decode prog_64_method_4_code 0 = .ok (.aload_n 0, 1) := by decide +kernel
theorem d6_1 : decode prog_64_method_4_code 1 = .ok (.getfield 17, 3) := by decide +kernel
theorem d6_4 : decode prog_64_method_4_code 4 = .ok (.dstore_n 2, 1) := by decide +kernel
theorem d6_5 : decode prog_64_method_4_code 5 = .ok (.aload_n 0, 1) := by decide +kernel
theorem d6_6 : decode prog_64_method_4_code 6 = .ok (.dload_n 2, 1) := by decide +kernel
theorem d6_7 : decode prog_64_method_4_code 7 = .ok (.iload_n 1, 1) := by decide +kernel
theorem d6_8 : decode prog_64_method_4_code 8 = .ok (.i2d, 1) := by decide +kernel
theorem d6_9 : decode prog_64_method_4_code 9 = .ok (.dload_n 2, 1) := by decide +kernel
theorem d6_10 : decode prog_64_method_4_code 10 = .ok (.dsub, 1) := by decide +kernel
theorem d6_11 : decode prog_64_method_4_code 11 = .ok (.ldc2_w 31, 3) := by decide +kernel
theorem d6_14 : decode prog_64_method_4_code 14 = .ok (.ddiv, 1) := by decide +kernel
theorem d6_15 : decode prog_64_method_4_code 15 = .ok (.dadd, 1) := by decide +kernel
theorem d6_16 : decode prog_64_method_4_code 16 = .ok (.putfield 17, 3) := by decide +kernel
theorem d6_19 : decode prog_64_method_4_code 19 = .ok (.return_, 1) := by decide +kernel
theorem pn_6 : plainName "com/example/tanager/tanager/Polling" = true := by first | (simp [plainName, overriddenIn]; done) | decide +kernel
theorem ef_6 (m : MethodId) (x0 : Addr) (x1 : Int32) : entryFrame m #[(.ref x0), (.int x1)] 4 = mkF m 0 #[.val (.ref x0), .val (.int x1), .unset, .unset] [] := by first | (simp [entryFrame, mkF, argsToLocals, Value.category]; done) | rfl
def Q6 (Z : State) (a1 : Addr) (r15 ww : UInt64) (h0 : Heap) (n0 : Nat) (v : Option Value) (h : Heap) (L : List Loc) : Prop := v = none ∧ Fr n0 L ∧ Keep h0 h [a1] ∧ Exa Z h a1 "com/example/tanager/tanager/Polling" ∧ Fld Z h a1 "com/example/tanager/tanager/Polling" "recentWaitNanos" "D" (.double ww) ∧ Fld Z h a1 "com/example/tanager/tanager/Polling" "recentCalls" "D" (.double r15)
set_option maxRecDepth 65536 in
set_option maxHeartbeats 40000000 in
theorem rm6 (l : Launch) (Z : State) (a0 : Array Value) (hw : ∀ d ∈ tables_1, d.before a0 Z = true) (ws : List Jvm.Cond) (a1 : Addr) (p2 : Int32) (w3 : UInt64) (r10 : UInt64) (r14 : UInt64) (r15 : UInt64) (ww : UInt64) (h0 : Heap) (n0 : Nat) (Z0 : n0 ≤ h0.size) (F_recentCalls_a1 : Fld Z h0 a1 "com/example/tanager/tanager/Polling" "recentCalls" "D" (.double w3)) (E_a1 : Exa Z h0 a1 "com/example/tanager/tanager/Polling") (F_recentWaitNanos_a1 : Fld Z h0 a1 "com/example/tanager/tanager/Polling" "recentWaitNanos" "D" (.double ww)) (g_a1 : n0 ≤ a1) (hv10 : (FP.dsub (FP.i2d p2) w3) = r10) (hn10 : Jvm.Free.Fl.NoNaN64 (FP.dsub (FP.i2d p2) w3)) (hv14 : (FP.ddiv r10 (4620693217682128896 : UInt64)) = r14) (hn14 : Jvm.Free.Fl.NoNaN64 (FP.ddiv r10 (4620693217682128896 : UInt64))) (hv15 : (FP.dadd w3 r14) = r15) (hn15 : Jvm.Free.Fl.NoNaN64 (FP.dadd w3 r14)) :
    MetFree l (⟨"com/example/tanager/tanager/Polling", "counted", "(I)V"⟩ : MethodName) (head1 (Jvm.Cond.code (⟨"com/example/tanager/tanager/Polling", "counted", "(I)V"⟩ : MethodName) prog_64_method_4_code 4 none :: ws) ({ frames := 0, cells := 0, slots := 0, locals := 0 } : Room)) (fun a U => a = #[(.ref a1), (.int p2)] ∧ Z.Warmed39 U.vm ∧ U.heap = h0) (fun _ _ _ _ _ => True) (fun _ U o U' => ∃ v L, o = .returned v ∧ Q6 Z a1 r15 ww h0 n0 v U'.heap L ∧ FrameEnd U o U' L ({ frames := 0, cells := 0, slots := 0, locals := 0 } : Room).cells ({ frames := 0, cells := 0, slots := 0, locals := 0 } : Room).slots) := by
  refine MetFree.of_bodySF (plainFor_of_name pn_6) hisR ?_
  intro p e s m args below meth c s₁ Bd hml0 hP hK
  obtain ⟨rfl, hZ, hh⟩ := hP
  have hx := Bd.exec
  have hby := Bd.bytes
  have hml : c.maxLocals = 4 := hml0
  have hown : s.vm.findClass "com/example/tanager/tanager/Polling" = some m.cls := findClass_of_methodNamed Bd.named
  have hnm := (name_of_methodNamed Bd.named Bd.method).1
  have X0 : Stand p l e ({ frames := 0, cells := 0, slots := 0, locals := 0 } : Room) s m #[(.ref a1), (.int p2)] below meth c s₁ [] 0 0 := Stand.of_body Bd
  have e0 : s₁.heap = h0 := by rw [← hh, Bd.state]; rfl
  have N0 := Fr.nil n0
  have pre0 : ∀ t, Steps p.tables e below (s₁.setTop (mkF m 0 #[.val (.ref a1), .val (.int p2), .unset, .unset] [])) t → Steps p.tables e below (s₁.setTop (entryFrame m #[(.ref a1), (.int p2)] 4)) t := fun t k => castTop (ef_6 m a1 p2) k
  obtain ⟨T4, X4, e4, st4⟩ := getF X0 hx hZ hown (host := "") (Or.inl (hw _ (List.mem_of_getElem? (i := 14) rfl))) Via.refl e0 F_recentCalls_a1 (g := (mkF m 1 #[.val (.ref a1), .val (.int p2), .unset, .unset] [(.ref a1)])) rfl rfl (hb hby d6_1)
  obtain ⟨T5, h5, X5, e5, W5, st5⟩ := putF X4 hx hZ hown (host := "") (Or.inl (hw _ (List.mem_of_getElem? (i := 14) rfl))) Via.refl e4 F_recentCalls_a1 E_a1 (Or.inl (hw _ (List.mem_of_getElem? (i := 15) rfl))) (hw _ (List.mem_of_getElem? (i := 2) rfl)) (ty := .double) (by decide) rfl rfl (g := (mkF m 16 #[.val (.ref a1), .val (.int p2), .val (.double w3), .second] [(.double r15), (.ref a1)])) rfl rfl (hb hby d6_16)
  have Fw5 := F_recentCalls_a1.same W5
  have K5 : Keep h0 h5 [a1] := (Keep.refl h0 [a1]).wr W5 (Or.inl (List.mem_of_getElem? (i := 0) rfl))
  have N5 := Fr.snoc X5 N0 g_a1
  obtain ⟨fs, hr, hrun, hended, hW, hsame⟩ := X5.leave (v := none) (fun _ => rfl)
  refine ⟨_, _, pre0 _ ?_, hrun, hended, _, _, rfl, ?_, ⟨_, rfl⟩, hW, hsame.mono (by decide) (by decide)⟩
  · show Steps p.tables e below (s₁.setTop (mkF m 0 #[.val (.ref a1), .val (.int p2), .unset, .unset] [])) _
    refine XS.aloadN X0.here hx rfl (hb hby d6_0) rfl rfl ?_
    show Steps p.tables e below (s₁.setTop (mkF m 1 #[.val (.ref a1), .val (.int p2), .unset, .unset] [(.ref a1)])) _
    refine st4 _ ?_
    show Steps p.tables e below (T4.setTop (mkF m 4 #[.val (.ref a1), .val (.int p2), .unset, .unset] [(.double w3)])) _
    refine XS.dstoreN X4.here hx rfl (hb hby d6_4) rfl (l' := #[.val (.ref a1), .val (.int p2), .val (.double w3), .second]) rfl ?_
    show Steps p.tables e below (T4.setTop (mkF m 5 #[.val (.ref a1), .val (.int p2), .val (.double w3), .second] [])) _
    refine XS.aloadN X4.here hx rfl (hb hby d6_5) rfl rfl ?_
    show Steps p.tables e below (T4.setTop (mkF m 6 #[.val (.ref a1), .val (.int p2), .val (.double w3), .second] [(.ref a1)])) _
    refine XS.dloadN X4.here hx rfl (hb hby d6_6) rfl ?_
    show Steps p.tables e below (T4.setTop (mkF m 7 #[.val (.ref a1), .val (.int p2), .val (.double w3), .second] [(.double w3), (.ref a1)])) _
    refine XS.iloadN X4.here hx rfl (hb hby d6_7) rfl ?_
    show Steps p.tables e below (T4.setTop (mkF m 8 #[.val (.ref a1), .val (.int p2), .val (.double w3), .second] [(.int p2), (.double w3), (.ref a1)])) _
    refine XS.i2dS X4.here hx rfl (hb hby d6_8) rfl rfl ?_
    show Steps p.tables e below (T4.setTop (mkF m 9 #[.val (.ref a1), .val (.int p2), .val (.double w3), .second] [(.double (FP.i2d p2)), (.double w3), (.ref a1)])) _
    refine XS.dloadN X4.here hx rfl (hb hby d6_9) rfl ?_
    show Steps p.tables e below (T4.setTop (mkF m 10 #[.val (.ref a1), .val (.int p2), .val (.double w3), .second] [(.double w3), (.double (FP.i2d p2)), (.double w3), (.ref a1)])) _
    refine XS.dsubS X4.here hx rfl (hb hby d6_10) rfl hn10 hv10 ?_
    show Steps p.tables e below (T4.setTop (mkF m 11 #[.val (.ref a1), .val (.int p2), .val (.double w3), .second] [(.double r10), (.double w3), (.ref a1)])) _
    refine X4.ldc2DoubleC hx hown (mvT hZ (hw _ (List.mem_of_getElem? (i := 32) rfl))) (g := (mkF m 11 #[.val (.ref a1), .val (.int p2), .val (.double w3), .second] [(.double r10), (.double w3), (.ref a1)])) rfl (hb hby d6_11) _ ?_
    show Steps p.tables e below (T4.setTop (mkF m 14 #[.val (.ref a1), .val (.int p2), .val (.double w3), .second] [(.double (4620693217682128896 : UInt64)), (.double r10), (.double w3), (.ref a1)])) _
    refine XS.ddivS X4.here hx rfl (hb hby d6_14) rfl hn14 hv14 ?_
    show Steps p.tables e below (T4.setTop (mkF m 15 #[.val (.ref a1), .val (.int p2), .val (.double w3), .second] [(.double r14), (.double w3), (.ref a1)])) _
    refine XS.daddS X4.here hx rfl (hb hby d6_15) rfl hn15 hv15 ?_
    show Steps p.tables e below (T4.setTop (mkF m 16 #[.val (.ref a1), .val (.int p2), .val (.double w3), .second] [(.double r15), (.ref a1)])) _
    refine st5 _ ?_
    show Steps p.tables e below (T5.setTop (mkF m 19 #[.val (.ref a1), .val (.int p2), .val (.double w3), .second] [])) _
    exact X5.returnOut hx Bd.returns (hb hby d6_19) hr
  · show Q6 Z a1 r15 ww h0 n0 _ T5.heap _
    rw [e5]
    exact ⟨rfl, N5, K5, (E_a1.wr W5), (F_recentWaitNanos_a1.other W5 (Or.inr (slot_ne (Or.inl (hw _ (List.mem_of_getElem? (i := 13) rfl))) (Or.inl (hw _ (List.mem_of_getElem? (i := 15) rfl))) (by decide) (t := .double) (t' := .double) (by decide) (by decide)))), Fw5⟩
theorem pn_0 : plainName "com/example/tanager/tanager/PollingWorthItPinLaw" = true := by first | (simp [plainName, overriddenIn]; done) | decide +kernel
theorem pd_0_0 : parseMethodDescriptor "()V" = some ⟨[], none⟩ := by decide +kernel
theorem pd_0_1 : parseMethodDescriptor "()Z" = some ⟨[], some .boolean⟩ := by decide +kernel
theorem pd_0_2 : parseMethodDescriptor "(J)V" = some ⟨[.long], none⟩ := by decide +kernel
theorem pd_0_4 : parseMethodDescriptor "(I)V" = some ⟨[.int], none⟩ := by decide +kernel
theorem ef_0 (m : MethodId) (x0 : Int64) (x1 : Int32) (x2 : Int32) : entryFrame m #[(.long x0), (.int x1), (.int x2)] maxLocals = mkF m 0 #[.val (.long x0), .second, .val (.int x1), .val (.int x2), .unset, .unset, .unset, .unset, .unset, .unset, .unset] [] := by first | (simp [entryFrame, mkF, argsToLocals, Value.category, maxLocals]; done) | rfl
set_option maxRecDepth 65536 in
set_option maxHeartbeats 40000000 in
theorem rm0_fffffff (l : Launch) (Z : State) (a0 : Array Value) (hw : ∀ d ∈ tables_1, d.before a0 Z = true) (ws : List Jvm.Cond) (q1 : Int64) (p2 : Int32) (p3 : Int32) (kk6 : Int32) (w1 : UInt64) (w2 : UInt64) (w3 : UInt64) (c1 : UInt64) (c2 : UInt64) (c3 : UInt64) (h0 : Heap) (n0 : Nat) (Z0 : n0 ≤ h0.size) (hk6 : ((1 : Int32) + (p2 &&& (1073741823 : Int32))) = kk6) (hw1 : (FP.dsub (FP.l2d (F5 q1 (240000 : Int64))) (FP.l2d (240000 : Int64))) = w1) (hn1 : Jvm.Free.Fl.NoNaN64 (FP.dsub (FP.l2d (F5 q1 (240000 : Int64))) (FP.l2d (240000 : Int64)))) (hw2 : (FP.ddiv w1 (4620693217682128896 : UInt64)) = w2) (hn2 : Jvm.Free.Fl.NoNaN64 (FP.ddiv w1 (4620693217682128896 : UInt64))) (hw3 : (FP.dadd (FP.l2d (240000 : Int64)) w2) = w3) (hn3 : Jvm.Free.Fl.NoNaN64 (FP.dadd (FP.l2d (240000 : Int64)) w2)) (hx1 : (FP.dsub (FP.i2d kk6) FP.dconst1) = c1) (hm1 : Jvm.Free.Fl.NoNaN64 (FP.dsub (FP.i2d kk6) FP.dconst1)) (hx2 : (FP.ddiv c1 (4620693217682128896 : UInt64)) = c2) (hm2 : Jvm.Free.Fl.NoNaN64 (FP.ddiv c1 (4620693217682128896 : UInt64))) (hx3 : (FP.dadd FP.dconst1 c2) = c3) (hm3 : Jvm.Free.Fl.NoNaN64 (FP.dadd FP.dconst1 c2)) (S0 : Sta Z h0 "com/example/tanager/tanager/Polling" "LONGEST_WAIT_COUNTED" "J" (.long (240000 : Int64))) (S0' : Sta Z h0 "com/example/tanager/tanager/Polling" "NANOS" "J" (.long (30000 : Int64))) (hc27 : ¬ ((p3 &&& (1 : Int32)) = (0 : Int32))) (hc48 : (lcmpW q1 (-1440000 : Int64)) < (0 : Int32)) (hc103 : (lcmpW q1 (-1440000 : Int64)) < (0 : Int32)) (hc109 : kk6 < (5 : Int32)) (hq1 : (F3 (FP.l2d (240000 : Int64)) FP.dconst1) = (0 : Int32)) (hq2 : (F3 w3 FP.dconst1) = (1 : Int32)) (hq3 : (F3 w3 c3) = (1 : Int32)) :
    MetFree l x (head1 (Jvm.Cond.code x code maxLocals ret :: ws) room_1) (fun a U => a = #[(.long q1), (.int p2), (.int p3)] ∧ Z.Warmed39 U.vm ∧ U.heap = h0) (fun _ _ _ _ _ => True) (fun _ U o U' => ∃ v L, o = .returned v ∧ QL n0 v U'.heap L ∧ FrameEnd U o U' L room_1.cells room_1.slots) := by
  refine MetFree.of_bodySF (plainFor_of_name pn_0) hisR ?_
  intro p e s m args below meth c s₁ Bd hml0 hP hK
  obtain ⟨rfl, hZ, hh⟩ := hP
  have hx := Bd.exec
  have hby := Bd.bytes
  have hml : c.maxLocals = 11 := hml0
  have hown : s.vm.findClass "com/example/tanager/tanager/PollingWorthItPinLaw" = some m.cls := findClass_of_methodNamed Bd.named
  have hnm := (name_of_methodNamed Bd.named Bd.method).1
  have X0 : Stand p l e room_1 s m #[(.long q1), (.int p2), (.int p3)] below meth c s₁ [] 0 0 := Stand.of_body Bd
  have e0 : s₁.heap = h0 := by rw [← hh, Bd.state]; rfl
  have N0 := Fr.nil n0
  have pre0 : ∀ t, Steps p.tables e below (s₁.setTop (mkF m 0 #[.val (.long q1), .second, .val (.int p2), .val (.int p3), .unset, .unset, .unset, .unset, .unset, .unset, .unset] [])) t → Steps p.tables e below (s₁.setTop (entryFrame m #[(.long q1), (.int p2), (.int p3)] maxLocals)) t := fun t k => castTop (ef_0 m q1 p2 p3) k
  obtain ⟨T4, h4, X4, e4, E4, A4, D4, -, st4⟩ := newO X0 hx hZ hown (hw _ (List.mem_of_getElem? (i := 1) rfl)) (hw _ (List.mem_of_getElem? (i := 2) rfl)) (hw _ (List.mem_of_getElem? (i := 3) rfl)) e0 (g := (mkF m 8 #[.val (.long q1), .second, .val (.int p2), .val (.int p3), .val (.int kk6), .unset, .unset, .unset, .unset, .unset, .unset] [])) rfl (hb hby at_8) (by decide) (by decide)
  obtain ⟨b4, g4⟩ : ∃ z, z = h0.size := ⟨_, rfl⟩
  rw [← g4] at A4 D4 st4
  have F_recentWaitNanos_b4 : Fld Z h4 b4 "com/example/tanager/tanager/Polling" "recentWaitNanos" "D" (.double (0 : UInt64)) := D4 (Or.inl (hw _ (List.mem_of_getElem? (i := 13) rfl))) (ty := .double) (by decide)
  have F_recentCalls_b4 : Fld Z h4 b4 "com/example/tanager/tanager/Polling" "recentCalls" "D" (.double (0 : UInt64)) := D4 (Or.inl (hw _ (List.mem_of_getElem? (i := 15) rfl))) (ty := .double) (by decide)
  have E_b4 := A4
  have g_b4 : n0 ≤ b4 := Nat.le_trans Z0 (Nat.le_of_eq g4.symm)
  have sz_b4 : h0.size ≤ b4 := (Nat.le_trans (Keep.refl h0 []).1 (Nat.le_of_eq g4.symm))
  have K4 : Keep h0 h4 [] := (Keep.refl h0 []).ext E4
  obtain ⟨_, _, ⟨T5, L5, k5, n5⟩, -, X5, ⟨Lc5, hQ5, l5, y5, z5⟩, st5⟩ := X4.specialBack hx (y := (⟨"com/example/tanager/tanager/Polling", "<init>", "()V"⟩ : MethodName)) rfl hown (mvT hZ (hw _ (List.mem_of_getElem? (i := 4) rfl))) (mvT hZ (hw _ (List.mem_of_getElem? (i := 5) rfl))) (mvT hZ (hw _ (List.mem_of_getElem? (i := 6) rfl))) (by decide) (backOf (W := 1) (rm1 l Z a0 hw [] b4 (240000 : Int64) _ _ h4 n0 (Nat.le_trans Z0 E4.1) (S0.ext E4) E_b4 F_recentWaitNanos_b4 g_b4 F_recentCalls_b4) hZ (hw _ (List.mem_of_getElem? (i := 6) rfl)) (hw _ (List.mem_of_getElem? (i := 3) rfl)) (by decide) (by decide)) (g := (mkF m 12 #[.val (.long q1), .second, .val (.int p2), .val (.int p3), .val (.int kk6), .unset, .unset, .unset, .unset, .unset, .unset] [(.ref b4), (.ref b4)])) rfl (by rw [hml]; rfl) (Steps.refl _) (a := b4) (argsL := []) (rest := [(.ref b4)]) (lenOf pd_0_0 rfl) rfl (by show 2 * 0 + _ ≤ _; exact Nat.le_of_eq rfl) (hb hby at_12) (fun _ _ => ⟨rfl, e4, (by decide : 1 + 0 ≤ _), (by decide : 2 + 0 ≤ _)⟩)
  dsimp only [Pt.U, Pt.locs, Pt.cells, Pt.slots] at X5 l5 y5 z5 st5 hQ5
  subst l5 y5 z5
  obtain ⟨rfl, N5q, K5c, E5, Fw5, Fc5⟩ := hQ5
  have Z5 : n0 ≤ T5.heap.size := Nat.le_trans (Nat.le_trans Z0 E4.1) K5c.1
  have S5 := own_sta_keep (S0.ext E4) K5c E_b4
  have S5' := own_sta_keep (S0'.ext E4) K5c E_b4
  have N5 := Fr.app N0 N5q
  obtain ⟨cq6, kq6, q6a, q6b, q6c⟩ := isOf hZ rfl (E_b4.keep K5c)
  obtain ⟨_, _, ⟨T6, L6, k6, n6⟩, -, X6, ⟨Lc6, hQ6, l6, y6, z6⟩, st6⟩ := X5.virtualBack hx (y := (⟨"com/example/tanager/tanager/Polling", "worthIt", "()Z"⟩ : MethodName)) (z := (⟨"com/example/tanager/tanager/Polling", "worthIt", "()Z"⟩ : MethodName)) hown (mvT hZ (hw _ (List.mem_of_getElem? (i := 16) rfl))) (mvT hZ (hw _ (List.mem_of_getElem? (i := 17) rfl))) (notFace_of_selects (args := #[]) (mvT hZ (hw _ (List.mem_of_getElem? (i := 19) rfl)))) (mvT hZ (hw _ (List.mem_of_getElem? (i := 19) rfl))) (mvT hZ (hw _ (List.mem_of_getElem? (i := 18) rfl))) (by decide) (backOf (W := 0) (rm3 l Z a0 hw [] b4 (FP.l2d (240000 : Int64)) FP.dconst1 T5.heap n0 Z5 Fw5 S5' Fc5) hZ (hw _ (List.mem_of_getElem? (i := 20) rfl)) (hw _ (List.mem_of_getElem? (i := 3) rfl)) (by decide) (by decide)) q6a q6c (g := (mkF m 19 #[.val (.long q1), .second, .val (.int p2), .val (.int p3), .val (.int kk6), .val (.ref b4), .unset, .unset, .unset, .unset, .unset] [(.ref b4)])) rfl (by rw [hml]; rfl) (Steps.refl _) (argsL := []) (rest := []) (lenOf pd_0_1 rfl) rfl (by show 2 * 0 + _ ≤ _; exact Nat.le_of_eq rfl) (hb hby at_19) (fun _ _ => ⟨rfl, rfl, (by decide : 1 + 0 ≤ _), (by decide : 2 + 0 ≤ _)⟩)
  dsimp only [Pt.U, Pt.locs, Pt.cells, Pt.slots] at X6 l6 y6 z6 st6 hQ6
  subst l6 y6 z6
  obtain ⟨rfl, N6q, eh6⟩ := hQ6
  have K6c : Keep T5.heap T6.heap [] := by rw [eh6]; exact Keep.refl _ _
  have Z6 : n0 ≤ T6.heap.size := by rw [eh6]; exact Z5
  have E6 := E5.keep K6c
  have Fw6 := Fw5.keep K6c (by simp)
  have Fc6 := Fc5.keep K6c (by simp)
  have S6 : Sta Z T6.heap "com/example/tanager/tanager/Polling" "LONGEST_WAIT_COUNTED" "J" (.long (240000 : Int64)) := by rw [eh6]; exact S5
  have S6' : Sta Z T6.heap "com/example/tanager/tanager/Polling" "NANOS" "J" (.long (30000 : Int64)) := by rw [eh6]; exact S5'
  have N6 := Fr.app N5 N6q
  obtain ⟨cq7, kq7, q7a, q7b, q7c⟩ := isOf hZ rfl ((E_b4.keep K5c).keep K6c)
  obtain ⟨_, _, ⟨T7, L7, k7, n7⟩, -, X7, ⟨Lc7, hQ7, l7, y7, z7⟩, st7⟩ := X6.virtualBack hx (y := (⟨"com/example/tanager/tanager/Polling", "waited", "(J)V"⟩ : MethodName)) (z := (⟨"com/example/tanager/tanager/Polling", "waited", "(J)V"⟩ : MethodName)) hown (mvT hZ (hw _ (List.mem_of_getElem? (i := 23) rfl))) (mvT hZ (hw _ (List.mem_of_getElem? (i := 24) rfl))) (notFace_of_selects (args := #[]) (mvT hZ (hw _ (List.mem_of_getElem? (i := 26) rfl)))) (mvT hZ (hw _ (List.mem_of_getElem? (i := 26) rfl))) (mvT hZ (hw _ (List.mem_of_getElem? (i := 25) rfl))) (by decide) (backOf (W := 0) (rm4 l Z a0 hw [] b4 q1 (FP.l2d (240000 : Int64)) w1 w2 w3 FP.dconst1 T6.heap n0 Z6 Fw6 S6 E6 Fc6 g_b4 hw1 hn1 hw2 hn2 hw3 hn3) hZ (hw _ (List.mem_of_getElem? (i := 27) rfl)) (hw _ (List.mem_of_getElem? (i := 3) rfl)) (by decide) (by decide)) q7a q7c (g := (mkF m 33 #[.val (.long q1), .second, .val (.int p2), .val (.int p3), .val (.int kk6), .val (.ref b4), .val (.int (F3 (FP.l2d (240000 : Int64)) FP.dconst1)), .unset, .unset, .unset, .unset] [(.long q1), (.ref b4)])) rfl (by rw [hml]; rfl) (Steps.refl _) (argsL := [(.long q1)]) (rest := []) (lenOf pd_0_2 rfl) rfl (by show 2 * 0 + _ ≤ _; exact Nat.le_of_eq rfl) (hb hby at_33) (fun _ _ => ⟨rfl, rfl, (by decide : 1 + 0 ≤ _), (by decide : 2 + 0 ≤ _)⟩)
  dsimp only [Pt.U, Pt.locs, Pt.cells, Pt.slots] at X7 l7 y7 z7 st7 hQ7
  subst l7 y7 z7
  obtain ⟨rfl, N7q, K7c, E7, Fw7, Fc7⟩ := hQ7
  have Z7 : n0 ≤ T7.heap.size := Nat.le_trans Z6 K7c.1
  have S7 := own_sta_keep S6 K7c E6
  have S7' := own_sta_keep S6' K7c E6
  have N7 := Fr.app N6 N7q
  obtain ⟨cq8, kq8, q8a, q8b, q8c⟩ := isOf hZ rfl (((E_b4.keep K5c).keep K6c).keep K7c)
  obtain ⟨_, _, ⟨T8, L8, k8, n8⟩, -, X8, ⟨Lc8, hQ8, l8, y8, z8⟩, st8⟩ := X7.virtualBack hx (y := (⟨"com/example/tanager/tanager/Polling", "worthIt", "()Z"⟩ : MethodName)) (z := (⟨"com/example/tanager/tanager/Polling", "worthIt", "()Z"⟩ : MethodName)) hown (mvT hZ (hw _ (List.mem_of_getElem? (i := 16) rfl))) (mvT hZ (hw _ (List.mem_of_getElem? (i := 17) rfl))) (notFace_of_selects (args := #[]) (mvT hZ (hw _ (List.mem_of_getElem? (i := 19) rfl)))) (mvT hZ (hw _ (List.mem_of_getElem? (i := 19) rfl))) (mvT hZ (hw _ (List.mem_of_getElem? (i := 18) rfl))) (by decide) (backOf (W := 0) (rm3 l Z a0 hw [] b4 w3 FP.dconst1 T7.heap n0 Z7 Fw7 S7' Fc7) hZ (hw _ (List.mem_of_getElem? (i := 20) rfl)) (hw _ (List.mem_of_getElem? (i := 3) rfl)) (by decide) (by decide)) q8a q8c (g := (mkF m 38 #[.val (.long q1), .second, .val (.int p2), .val (.int p3), .val (.int kk6), .val (.ref b4), .val (.int (F3 (FP.l2d (240000 : Int64)) FP.dconst1)), .unset, .unset, .unset, .unset] [(.ref b4)])) rfl (by rw [hml]; rfl) (Steps.refl _) (argsL := []) (rest := []) (lenOf pd_0_1 rfl) rfl (by show 2 * 0 + _ ≤ _; exact Nat.le_of_eq rfl) (hb hby at_38) (fun _ _ => ⟨rfl, rfl, (by decide : 1 + 0 ≤ _), (by decide : 2 + 0 ≤ _)⟩)
  dsimp only [Pt.U, Pt.locs, Pt.cells, Pt.slots] at X8 l8 y8 z8 st8 hQ8
  subst l8 y8 z8
  obtain ⟨rfl, N8q, eh8⟩ := hQ8
  have K8c : Keep T7.heap T8.heap [] := by rw [eh8]; exact Keep.refl _ _
  have Z8 : n0 ≤ T8.heap.size := by rw [eh8]; exact Z7
  have E8 := E7.keep K8c
  have Fw8 := Fw7.keep K8c (by simp)
  have Fc8 := Fc7.keep K8c (by simp)
  have S8 : Sta Z T8.heap "com/example/tanager/tanager/Polling" "LONGEST_WAIT_COUNTED" "J" (.long (240000 : Int64)) := by rw [eh8]; exact S7
  have S8' : Sta Z T8.heap "com/example/tanager/tanager/Polling" "NANOS" "J" (.long (30000 : Int64)) := by rw [eh8]; exact S7'
  have N8 := Fr.app N7 N8q
  obtain ⟨cq9, kq9, q9a, q9b, q9c⟩ := isOf hZ rfl ((((E_b4.keep K5c).keep K6c).keep K7c).keep K8c)
  obtain ⟨_, _, ⟨T9, L9, k9, n9⟩, -, X9, ⟨Lc9, hQ9, l9, y9, z9⟩, st9⟩ := X8.virtualBack hx (y := (⟨"com/example/tanager/tanager/Polling", "counted", "(I)V"⟩ : MethodName)) (z := (⟨"com/example/tanager/tanager/Polling", "counted", "(I)V"⟩ : MethodName)) hown (mvT hZ (hw _ (List.mem_of_getElem? (i := 34) rfl))) (mvT hZ (hw _ (List.mem_of_getElem? (i := 35) rfl))) (notFace_of_selects (args := #[]) (mvT hZ (hw _ (List.mem_of_getElem? (i := 37) rfl)))) (mvT hZ (hw _ (List.mem_of_getElem? (i := 37) rfl))) (mvT hZ (hw _ (List.mem_of_getElem? (i := 36) rfl))) (by decide) (backOf (W := 0) (rm6 l Z a0 hw [] b4 kk6 FP.dconst1 c1 c2 c3 w3 T8.heap n0 Z8 Fc8 E8 Fw8 g_b4 hx1 hm1 hx2 hm2 hx3 hm3) hZ (hw _ (List.mem_of_getElem? (i := 38) rfl)) (hw _ (List.mem_of_getElem? (i := 3) rfl)) (by decide) (by decide)) q9a q9c (g := (mkF m 62 #[.val (.long q1), .second, .val (.int p2), .val (.int p3), .val (.int kk6), .val (.ref b4), .val (.int (F3 (FP.l2d (240000 : Int64)) FP.dconst1)), .val (.int (F3 w3 FP.dconst1)), .val (.int (1 : Int32)), .unset, .unset] [(.int kk6), (.ref b4)])) rfl (by rw [hml]; rfl) (Steps.refl _) (argsL := [(.int kk6)]) (rest := []) (lenOf pd_0_4 rfl) rfl (by show 2 * 0 + _ ≤ _; exact Nat.le_of_eq rfl) (hb hby at_62) (fun _ _ => ⟨rfl, rfl, (by decide : 1 + 0 ≤ _), (by decide : 2 + 0 ≤ _)⟩)
  dsimp only [Pt.U, Pt.locs, Pt.cells, Pt.slots] at X9 l9 y9 z9 st9 hQ9
  subst l9 y9 z9
  obtain ⟨rfl, N9q, K9c, E9, Fw9, Fc9⟩ := hQ9
  have Z9 : n0 ≤ T9.heap.size := Nat.le_trans Z8 K9c.1
  have S9 := own_sta_keep S8 K9c E8
  have S9' := own_sta_keep S8' K9c E8
  have N9 := Fr.app N8 N9q
  obtain ⟨cq10, kq10, q10a, q10b, q10c⟩ := isOf hZ rfl (((((E_b4.keep K5c).keep K6c).keep K7c).keep K8c).keep K9c)
  obtain ⟨_, _, ⟨T10, L10, k10, n10⟩, -, X10, ⟨Lc10, hQ10, l10, y10, z10⟩, st10⟩ := X9.virtualBack hx (y := (⟨"com/example/tanager/tanager/Polling", "worthIt", "()Z"⟩ : MethodName)) (z := (⟨"com/example/tanager/tanager/Polling", "worthIt", "()Z"⟩ : MethodName)) hown (mvT hZ (hw _ (List.mem_of_getElem? (i := 16) rfl))) (mvT hZ (hw _ (List.mem_of_getElem? (i := 17) rfl))) (notFace_of_selects (args := #[]) (mvT hZ (hw _ (List.mem_of_getElem? (i := 19) rfl)))) (mvT hZ (hw _ (List.mem_of_getElem? (i := 19) rfl))) (mvT hZ (hw _ (List.mem_of_getElem? (i := 18) rfl))) (by decide) (backOf (W := 0) (rm3 l Z a0 hw [] b4 w3 c3 T9.heap n0 Z9 Fw9 S9' Fc9) hZ (hw _ (List.mem_of_getElem? (i := 20) rfl)) (hw _ (List.mem_of_getElem? (i := 3) rfl)) (by decide) (by decide)) q10a q10c (g := (mkF m 93 #[.val (.long q1), .second, .val (.int p2), .val (.int p3), .val (.int kk6), .val (.ref b4), .val (.int (F3 (FP.l2d (240000 : Int64)) FP.dconst1)), .val (.int (F3 w3 FP.dconst1)), .val (.int (1 : Int32)), .unset, .unset] [(.ref b4)])) rfl (by rw [hml]; rfl) (Steps.refl _) (argsL := []) (rest := []) (lenOf pd_0_1 rfl) rfl (by show 2 * 0 + _ ≤ _; exact Nat.le_of_eq rfl) (hb hby at_93) (fun _ _ => ⟨rfl, rfl, (by decide : 1 + 0 ≤ _), (by decide : 2 + 0 ≤ _)⟩)
  dsimp only [Pt.U, Pt.locs, Pt.cells, Pt.slots] at X10 l10 y10 z10 st10 hQ10
  subst l10 y10 z10
  obtain ⟨rfl, N10q, eh10⟩ := hQ10
  have N10 := Fr.app N9 N10q
  obtain ⟨fs, hr, hrun, hended, hW, hsame⟩ := X10.leave (v := some (.int (1 : Int32))) (fun h => by rw [Bd.returns] at h; cases h)
  refine ⟨_, _, pre0 _ ?_, hrun, hended, _, _, rfl, ?_, ⟨_, rfl⟩, hW, hsame.mono (by decide) (by decide)⟩
  · show Steps p.tables e below (s₁.setTop (mkF m 0 #[.val (.long q1), .second, .val (.int p2), .val (.int p3), .unset, .unset, .unset, .unset, .unset, .unset, .unset] [])) _
    refine XS.iconst X0.here hx rfl (hb hby at_0) ?_
    show Steps p.tables e below (s₁.setTop (mkF m 1 #[.val (.long q1), .second, .val (.int p2), .val (.int p3), .unset, .unset, .unset, .unset, .unset, .unset, .unset] [(.int (1 : Int32))])) _
    refine XS.iloadN X0.here hx rfl (hb hby at_1) rfl ?_
    show Steps p.tables e below (s₁.setTop (mkF m 2 #[.val (.long q1), .second, .val (.int p2), .val (.int p3), .unset, .unset, .unset, .unset, .unset, .unset, .unset] [(.int p2), (.int (1 : Int32))])) _
    refine X0.ldcInt hx hown (mvT hZ (hw _ (List.mem_of_getElem? (i := 0) rfl))) (g := (mkF m 2 #[.val (.long q1), .second, .val (.int p2), .val (.int p3), .unset, .unset, .unset, .unset, .unset, .unset, .unset] [(.int p2), (.int (1 : Int32))])) rfl (hb hby at_2) _ ?_
    show Steps p.tables e below (s₁.setTop (mkF m 4 #[.val (.long q1), .second, .val (.int p2), .val (.int p3), .unset, .unset, .unset, .unset, .unset, .unset, .unset] [(.int (1073741823 : Int32)), (.int p2), (.int (1 : Int32))])) _
    refine XS.iand X0.here hx rfl (hb hby at_4) rfl ?_
    show Steps p.tables e below (s₁.setTop (mkF m 5 #[.val (.long q1), .second, .val (.int p2), .val (.int p3), .unset, .unset, .unset, .unset, .unset, .unset, .unset] [(.int (p2 &&& (1073741823 : Int32))), (.int (1 : Int32))])) _
    refine XS.iadd X0.here hx rfl (hb hby at_5) rfl ?_
    show Steps p.tables e below (s₁.setTop (mkF m 6 #[.val (.long q1), .second, .val (.int p2), .val (.int p3), .unset, .unset, .unset, .unset, .unset, .unset, .unset] [(.int ((1 : Int32) + (p2 &&& (1073741823 : Int32))))])) _
    refine XS.istore X0.here hx rfl (hb hby at_6) rfl (l' := #[.val (.long q1), .second, .val (.int p2), .val (.int p3), .val (.int ((1 : Int32) + (p2 &&& (1073741823 : Int32)))), .unset, .unset, .unset, .unset, .unset, .unset]) rfl ?_
    show Steps p.tables e below (s₁.setTop (mkF m 8 #[.val (.long q1), .second, .val (.int p2), .val (.int p3), .val (.int ((1 : Int32) + (p2 &&& (1073741823 : Int32)))), .unset, .unset, .unset, .unset, .unset, .unset] [])) _
    rw [hk6]
    show Steps p.tables e below (s₁.setTop (mkF m 8 #[.val (.long q1), .second, .val (.int p2), .val (.int p3), .val (.int kk6), .unset, .unset, .unset, .unset, .unset, .unset] [])) _
    refine st4 _ ?_
    show Steps p.tables e below (T4.setTop (mkF m 11 #[.val (.long q1), .second, .val (.int p2), .val (.int p3), .val (.int kk6), .unset, .unset, .unset, .unset, .unset, .unset] [(.ref b4)])) _
    refine XS.dup X4.here hx rfl (hb hby at_11) rfl rfl ?_
    show Steps p.tables e below (T4.setTop (mkF m 12 #[.val (.long q1), .second, .val (.int p2), .val (.int p3), .val (.int kk6), .unset, .unset, .unset, .unset, .unset, .unset] [(.ref b4), (.ref b4)])) _
    refine st5.trans ?_
    show Steps p.tables e below (T5.setTop (mkF m 15 #[.val (.long q1), .second, .val (.int p2), .val (.int p3), .val (.int kk6), .unset, .unset, .unset, .unset, .unset, .unset] [(.ref b4)])) _
    refine XS.astore X5.here hx rfl (hb hby at_15) rfl rfl (l' := #[.val (.long q1), .second, .val (.int p2), .val (.int p3), .val (.int kk6), .val (.ref b4), .unset, .unset, .unset, .unset, .unset]) rfl ?_
    show Steps p.tables e below (T5.setTop (mkF m 17 #[.val (.long q1), .second, .val (.int p2), .val (.int p3), .val (.int kk6), .val (.ref b4), .unset, .unset, .unset, .unset, .unset] [])) _
    refine XS.aload X5.here hx rfl (hb hby at_17) rfl rfl ?_
    show Steps p.tables e below (T5.setTop (mkF m 19 #[.val (.long q1), .second, .val (.int p2), .val (.int p3), .val (.int kk6), .val (.ref b4), .unset, .unset, .unset, .unset, .unset] [(.ref b4)])) _
    refine st6.trans ?_
    show Steps p.tables e below (T6.setTop (mkF m 22 #[.val (.long q1), .second, .val (.int p2), .val (.int p3), .val (.int kk6), .val (.ref b4), .unset, .unset, .unset, .unset, .unset] [(.int (F3 (FP.l2d (240000 : Int64)) FP.dconst1))])) _
    refine XS.istore X6.here hx rfl (hb hby at_22) rfl (l' := #[.val (.long q1), .second, .val (.int p2), .val (.int p3), .val (.int kk6), .val (.ref b4), .val (.int (F3 (FP.l2d (240000 : Int64)) FP.dconst1)), .unset, .unset, .unset, .unset]) rfl ?_
    show Steps p.tables e below (T6.setTop (mkF m 24 #[.val (.long q1), .second, .val (.int p2), .val (.int p3), .val (.int kk6), .val (.ref b4), .val (.int (F3 (FP.l2d (240000 : Int64)) FP.dconst1)), .unset, .unset, .unset, .unset] [])) _
    refine XS.iloadN X6.here hx rfl (hb hby at_24) rfl ?_
    show Steps p.tables e below (T6.setTop (mkF m 25 #[.val (.long q1), .second, .val (.int p2), .val (.int p3), .val (.int kk6), .val (.ref b4), .val (.int (F3 (FP.l2d (240000 : Int64)) FP.dconst1)), .unset, .unset, .unset, .unset] [(.int p3)])) _
    refine XS.iconst X6.here hx rfl (hb hby at_25) ?_
    show Steps p.tables e below (T6.setTop (mkF m 26 #[.val (.long q1), .second, .val (.int p2), .val (.int p3), .val (.int kk6), .val (.ref b4), .val (.int (F3 (FP.l2d (240000 : Int64)) FP.dconst1)), .unset, .unset, .unset, .unset] [(.int (1 : Int32)), (.int p3)])) _
    refine XS.iand X6.here hx rfl (hb hby at_26) rfl ?_
    show Steps p.tables e below (T6.setTop (mkF m 27 #[.val (.long q1), .second, .val (.int p2), .val (.int p3), .val (.int kk6), .val (.ref b4), .val (.int (F3 (FP.l2d (240000 : Int64)) FP.dconst1)), .unset, .unset, .unset, .unset] [(.int (p3 &&& (1 : Int32)))])) _
    refine XS.ifNo X6.here hx rfl (hb hby at_27) rfl ((if0 _ _).trans (feq hc27).1) ?_
    show Steps p.tables e below (T6.setTop (mkF m 30 #[.val (.long q1), .second, .val (.int p2), .val (.int p3), .val (.int kk6), .val (.ref b4), .val (.int (F3 (FP.l2d (240000 : Int64)) FP.dconst1)), .unset, .unset, .unset, .unset] [])) _
    refine XS.aload X6.here hx rfl (hb hby at_30) rfl rfl ?_
    show Steps p.tables e below (T6.setTop (mkF m 32 #[.val (.long q1), .second, .val (.int p2), .val (.int p3), .val (.int kk6), .val (.ref b4), .val (.int (F3 (FP.l2d (240000 : Int64)) FP.dconst1)), .unset, .unset, .unset, .unset] [(.ref b4)])) _
    refine XS.lloadN X6.here hx rfl (hb hby at_32) rfl ?_
    show Steps p.tables e below (T6.setTop (mkF m 33 #[.val (.long q1), .second, .val (.int p2), .val (.int p3), .val (.int kk6), .val (.ref b4), .val (.int (F3 (FP.l2d (240000 : Int64)) FP.dconst1)), .unset, .unset, .unset, .unset] [(.long q1), (.ref b4)])) _
    refine st7.trans ?_
    show Steps p.tables e below (T7.setTop (mkF m 36 #[.val (.long q1), .second, .val (.int p2), .val (.int p3), .val (.int kk6), .val (.ref b4), .val (.int (F3 (FP.l2d (240000 : Int64)) FP.dconst1)), .unset, .unset, .unset, .unset] [])) _
    refine XS.aload X7.here hx rfl (hb hby at_36) rfl rfl ?_
    show Steps p.tables e below (T7.setTop (mkF m 38 #[.val (.long q1), .second, .val (.int p2), .val (.int p3), .val (.int kk6), .val (.ref b4), .val (.int (F3 (FP.l2d (240000 : Int64)) FP.dconst1)), .unset, .unset, .unset, .unset] [(.ref b4)])) _
    refine st8.trans ?_
    show Steps p.tables e below (T8.setTop (mkF m 41 #[.val (.long q1), .second, .val (.int p2), .val (.int p3), .val (.int kk6), .val (.ref b4), .val (.int (F3 (FP.l2d (240000 : Int64)) FP.dconst1)), .unset, .unset, .unset, .unset] [(.int (F3 w3 FP.dconst1))])) _
    refine XS.istore X8.here hx rfl (hb hby at_41) rfl (l' := #[.val (.long q1), .second, .val (.int p2), .val (.int p3), .val (.int kk6), .val (.ref b4), .val (.int (F3 (FP.l2d (240000 : Int64)) FP.dconst1)), .val (.int (F3 w3 FP.dconst1)), .unset, .unset, .unset]) rfl ?_
    show Steps p.tables e below (T8.setTop (mkF m 43 #[.val (.long q1), .second, .val (.int p2), .val (.int p3), .val (.int kk6), .val (.ref b4), .val (.int (F3 (FP.l2d (240000 : Int64)) FP.dconst1)), .val (.int (F3 w3 FP.dconst1)), .unset, .unset, .unset] [])) _
    refine XS.lloadN X8.here hx rfl (hb hby at_43) rfl ?_
    show Steps p.tables e below (T8.setTop (mkF m 44 #[.val (.long q1), .second, .val (.int p2), .val (.int p3), .val (.int kk6), .val (.ref b4), .val (.int (F3 (FP.l2d (240000 : Int64)) FP.dconst1)), .val (.int (F3 w3 FP.dconst1)), .unset, .unset, .unset] [(.long q1)])) _
    refine X8.ldc2Long hx hown (mvT hZ (hw _ (List.mem_of_getElem? (i := 33) rfl))) (g := (mkF m 44 #[.val (.long q1), .second, .val (.int p2), .val (.int p3), .val (.int kk6), .val (.ref b4), .val (.int (F3 (FP.l2d (240000 : Int64)) FP.dconst1)), .val (.int (F3 w3 FP.dconst1)), .unset, .unset, .unset] [(.long q1)])) rfl (hb hby at_44) _ ?_
    show Steps p.tables e below (T8.setTop (mkF m 47 #[.val (.long q1), .second, .val (.int p2), .val (.int p3), .val (.int kk6), .val (.ref b4), .val (.int (F3 (FP.l2d (240000 : Int64)) FP.dconst1)), .val (.int (F3 w3 FP.dconst1)), .unset, .unset, .unset] [(.long (-1440000 : Int64)), (.long q1)])) _
    refine XS.lcmp X8.here hx rfl (hb hby at_47) rfl ?_
    show Steps p.tables e below (T8.setTop (mkF m 48 #[.val (.long q1), .second, .val (.int p2), .val (.int p3), .val (.int kk6), .val (.ref b4), .val (.int (F3 (FP.l2d (240000 : Int64)) FP.dconst1)), .val (.int (F3 w3 FP.dconst1)), .unset, .unset, .unset] [(.int (lcmpW q1 (-1440000 : Int64)))])) _
    refine XS.ifNo X8.here hx rfl (hb hby at_48) rfl ((if0 _ _).trans (tlt hc48).2.1) ?_
    show Steps p.tables e below (T8.setTop (mkF m 51 #[.val (.long q1), .second, .val (.int p2), .val (.int p3), .val (.int kk6), .val (.ref b4), .val (.int (F3 (FP.l2d (240000 : Int64)) FP.dconst1)), .val (.int (F3 w3 FP.dconst1)), .unset, .unset, .unset] [])) _
    refine XS.iconst X8.here hx rfl (hb hby at_51) ?_
    show Steps p.tables e below (T8.setTop (mkF m 52 #[.val (.long q1), .second, .val (.int p2), .val (.int p3), .val (.int kk6), .val (.ref b4), .val (.int (F3 (FP.l2d (240000 : Int64)) FP.dconst1)), .val (.int (F3 w3 FP.dconst1)), .unset, .unset, .unset] [(.int (1 : Int32))])) _
    refine XS.goto X8.here hx rfl (pc0 := 52) (pc' := 56) rfl (hb hby at_52) (by decide) (by decide) ?_
    show Steps p.tables e below (T8.setTop (mkF m 56 #[.val (.long q1), .second, .val (.int p2), .val (.int p3), .val (.int kk6), .val (.ref b4), .val (.int (F3 (FP.l2d (240000 : Int64)) FP.dconst1)), .val (.int (F3 w3 FP.dconst1)), .unset, .unset, .unset] [(.int (1 : Int32))])) _
    refine XS.istore X8.here hx rfl (hb hby at_56) rfl (l' := #[.val (.long q1), .second, .val (.int p2), .val (.int p3), .val (.int kk6), .val (.ref b4), .val (.int (F3 (FP.l2d (240000 : Int64)) FP.dconst1)), .val (.int (F3 w3 FP.dconst1)), .val (.int (1 : Int32)), .unset, .unset]) rfl ?_
    show Steps p.tables e below (T8.setTop (mkF m 58 #[.val (.long q1), .second, .val (.int p2), .val (.int p3), .val (.int kk6), .val (.ref b4), .val (.int (F3 (FP.l2d (240000 : Int64)) FP.dconst1)), .val (.int (F3 w3 FP.dconst1)), .val (.int (1 : Int32)), .unset, .unset] [])) _
    refine XS.aload X8.here hx rfl (hb hby at_58) rfl rfl ?_
    show Steps p.tables e below (T8.setTop (mkF m 60 #[.val (.long q1), .second, .val (.int p2), .val (.int p3), .val (.int kk6), .val (.ref b4), .val (.int (F3 (FP.l2d (240000 : Int64)) FP.dconst1)), .val (.int (F3 w3 FP.dconst1)), .val (.int (1 : Int32)), .unset, .unset] [(.ref b4)])) _
    refine XS.iload X8.here hx rfl (hb hby at_60) rfl ?_
    show Steps p.tables e below (T8.setTop (mkF m 62 #[.val (.long q1), .second, .val (.int p2), .val (.int p3), .val (.int kk6), .val (.ref b4), .val (.int (F3 (FP.l2d (240000 : Int64)) FP.dconst1)), .val (.int (F3 w3 FP.dconst1)), .val (.int (1 : Int32)), .unset, .unset] [(.int kk6), (.ref b4)])) _
    refine st9.trans ?_
    show Steps p.tables e below (T9.setTop (mkF m 65 #[.val (.long q1), .second, .val (.int p2), .val (.int p3), .val (.int kk6), .val (.ref b4), .val (.int (F3 (FP.l2d (240000 : Int64)) FP.dconst1)), .val (.int (F3 w3 FP.dconst1)), .val (.int (1 : Int32)), .unset, .unset] [])) _
    refine XS.goto X9.here hx rfl (pc0 := 65) (pc' := 91) rfl (hb hby at_65) (by decide) (by decide) ?_
    show Steps p.tables e below (T9.setTop (mkF m 91 #[.val (.long q1), .second, .val (.int p2), .val (.int p3), .val (.int kk6), .val (.ref b4), .val (.int (F3 (FP.l2d (240000 : Int64)) FP.dconst1)), .val (.int (F3 w3 FP.dconst1)), .val (.int (1 : Int32)), .unset, .unset] [])) _
    refine XS.aload X9.here hx rfl (hb hby at_91) rfl rfl ?_
    show Steps p.tables e below (T9.setTop (mkF m 93 #[.val (.long q1), .second, .val (.int p2), .val (.int p3), .val (.int kk6), .val (.ref b4), .val (.int (F3 (FP.l2d (240000 : Int64)) FP.dconst1)), .val (.int (F3 w3 FP.dconst1)), .val (.int (1 : Int32)), .unset, .unset] [(.ref b4)])) _
    refine st10.trans ?_
    show Steps p.tables e below (T10.setTop (mkF m 96 #[.val (.long q1), .second, .val (.int p2), .val (.int p3), .val (.int kk6), .val (.ref b4), .val (.int (F3 (FP.l2d (240000 : Int64)) FP.dconst1)), .val (.int (F3 w3 FP.dconst1)), .val (.int (1 : Int32)), .unset, .unset] [(.int (F3 w3 c3))])) _
    refine XS.istore X10.here hx rfl (hb hby at_96) rfl (l' := #[.val (.long q1), .second, .val (.int p2), .val (.int p3), .val (.int kk6), .val (.ref b4), .val (.int (F3 (FP.l2d (240000 : Int64)) FP.dconst1)), .val (.int (F3 w3 FP.dconst1)), .val (.int (1 : Int32)), .val (.int (F3 w3 c3)), .unset]) rfl ?_
    show Steps p.tables e below (T10.setTop (mkF m 98 #[.val (.long q1), .second, .val (.int p2), .val (.int p3), .val (.int kk6), .val (.ref b4), .val (.int (F3 (FP.l2d (240000 : Int64)) FP.dconst1)), .val (.int (F3 w3 FP.dconst1)), .val (.int (1 : Int32)), .val (.int (F3 w3 c3)), .unset] [])) _
    refine XS.lloadN X10.here hx rfl (hb hby at_98) rfl ?_
    show Steps p.tables e below (T10.setTop (mkF m 99 #[.val (.long q1), .second, .val (.int p2), .val (.int p3), .val (.int kk6), .val (.ref b4), .val (.int (F3 (FP.l2d (240000 : Int64)) FP.dconst1)), .val (.int (F3 w3 FP.dconst1)), .val (.int (1 : Int32)), .val (.int (F3 w3 c3)), .unset] [(.long q1)])) _
    refine X10.ldc2Long hx hown (mvT hZ (hw _ (List.mem_of_getElem? (i := 33) rfl))) (g := (mkF m 99 #[.val (.long q1), .second, .val (.int p2), .val (.int p3), .val (.int kk6), .val (.ref b4), .val (.int (F3 (FP.l2d (240000 : Int64)) FP.dconst1)), .val (.int (F3 w3 FP.dconst1)), .val (.int (1 : Int32)), .val (.int (F3 w3 c3)), .unset] [(.long q1)])) rfl (hb hby at_99) _ ?_
    show Steps p.tables e below (T10.setTop (mkF m 102 #[.val (.long q1), .second, .val (.int p2), .val (.int p3), .val (.int kk6), .val (.ref b4), .val (.int (F3 (FP.l2d (240000 : Int64)) FP.dconst1)), .val (.int (F3 w3 FP.dconst1)), .val (.int (1 : Int32)), .val (.int (F3 w3 c3)), .unset] [(.long (-1440000 : Int64)), (.long q1)])) _
    refine XS.lcmp X10.here hx rfl (hb hby at_102) rfl ?_
    show Steps p.tables e below (T10.setTop (mkF m 103 #[.val (.long q1), .second, .val (.int p2), .val (.int p3), .val (.int kk6), .val (.ref b4), .val (.int (F3 (FP.l2d (240000 : Int64)) FP.dconst1)), .val (.int (F3 w3 FP.dconst1)), .val (.int (1 : Int32)), .val (.int (F3 w3 c3)), .unset] [(.int (lcmpW q1 (-1440000 : Int64)))])) _
    refine XS.ifNo X10.here hx rfl (hb hby at_103) rfl ((if0 _ _).trans (tlt hc103).2.1) ?_
    show Steps p.tables e below (T10.setTop (mkF m 106 #[.val (.long q1), .second, .val (.int p2), .val (.int p3), .val (.int kk6), .val (.ref b4), .val (.int (F3 (FP.l2d (240000 : Int64)) FP.dconst1)), .val (.int (F3 w3 FP.dconst1)), .val (.int (1 : Int32)), .val (.int (F3 w3 c3)), .unset] [])) _
    refine XS.iload X10.here hx rfl (hb hby at_106) rfl ?_
    show Steps p.tables e below (T10.setTop (mkF m 108 #[.val (.long q1), .second, .val (.int p2), .val (.int p3), .val (.int kk6), .val (.ref b4), .val (.int (F3 (FP.l2d (240000 : Int64)) FP.dconst1)), .val (.int (F3 w3 FP.dconst1)), .val (.int (1 : Int32)), .val (.int (F3 w3 c3)), .unset] [(.int kk6)])) _
    refine XS.iconst X10.here hx rfl (hb hby at_108) ?_
    show Steps p.tables e below (T10.setTop (mkF m 109 #[.val (.long q1), .second, .val (.int p2), .val (.int p3), .val (.int kk6), .val (.ref b4), .val (.int (F3 (FP.l2d (240000 : Int64)) FP.dconst1)), .val (.int (F3 w3 FP.dconst1)), .val (.int (1 : Int32)), .val (.int (F3 w3 c3)), .unset] [(.int (5 : Int32)), (.int kk6)])) _
    refine XS.icmpNo X10.here hx rfl (hb hby at_109) rfl (tlt hc109).2.1 ?_
    show Steps p.tables e below (T10.setTop (mkF m 112 #[.val (.long q1), .second, .val (.int p2), .val (.int p3), .val (.int kk6), .val (.ref b4), .val (.int (F3 (FP.l2d (240000 : Int64)) FP.dconst1)), .val (.int (F3 w3 FP.dconst1)), .val (.int (1 : Int32)), .val (.int (F3 w3 c3)), .unset] [])) _
    refine XS.iconst X10.here hx rfl (hb hby at_112) ?_
    show Steps p.tables e below (T10.setTop (mkF m 113 #[.val (.long q1), .second, .val (.int p2), .val (.int p3), .val (.int kk6), .val (.ref b4), .val (.int (F3 (FP.l2d (240000 : Int64)) FP.dconst1)), .val (.int (F3 w3 FP.dconst1)), .val (.int (1 : Int32)), .val (.int (F3 w3 c3)), .unset] [(.int (1 : Int32))])) _
    refine XS.goto X10.here hx rfl (pc0 := 113) (pc' := 117) rfl (hb hby at_113) (by decide) (by decide) ?_
    show Steps p.tables e below (T10.setTop (mkF m 117 #[.val (.long q1), .second, .val (.int p2), .val (.int p3), .val (.int kk6), .val (.ref b4), .val (.int (F3 (FP.l2d (240000 : Int64)) FP.dconst1)), .val (.int (F3 w3 FP.dconst1)), .val (.int (1 : Int32)), .val (.int (F3 w3 c3)), .unset] [(.int (1 : Int32))])) _
    refine XS.istore X10.here hx rfl (hb hby at_117) rfl (l' := #[.val (.long q1), .second, .val (.int p2), .val (.int p3), .val (.int kk6), .val (.ref b4), .val (.int (F3 (FP.l2d (240000 : Int64)) FP.dconst1)), .val (.int (F3 w3 FP.dconst1)), .val (.int (1 : Int32)), .val (.int (F3 w3 c3)), .val (.int (1 : Int32))]) rfl ?_
    show Steps p.tables e below (T10.setTop (mkF m 119 #[.val (.long q1), .second, .val (.int p2), .val (.int p3), .val (.int kk6), .val (.ref b4), .val (.int (F3 (FP.l2d (240000 : Int64)) FP.dconst1)), .val (.int (F3 w3 FP.dconst1)), .val (.int (1 : Int32)), .val (.int (F3 w3 c3)), .val (.int (1 : Int32))] [])) _
    refine XS.iload X10.here hx rfl (hb hby at_119) rfl ?_
    show Steps p.tables e below (T10.setTop (mkF m 121 #[.val (.long q1), .second, .val (.int p2), .val (.int p3), .val (.int kk6), .val (.ref b4), .val (.int (F3 (FP.l2d (240000 : Int64)) FP.dconst1)), .val (.int (F3 w3 FP.dconst1)), .val (.int (1 : Int32)), .val (.int (F3 w3 c3)), .val (.int (1 : Int32))] [(.int (F3 (FP.l2d (240000 : Int64)) FP.dconst1))])) _
    refine XS.ifNo X10.here hx rfl (hb hby at_121) rfl ((if0 _ _).trans (teq hq1).2) ?_
    show Steps p.tables e below (T10.setTop (mkF m 124 #[.val (.long q1), .second, .val (.int p2), .val (.int p3), .val (.int kk6), .val (.ref b4), .val (.int (F3 (FP.l2d (240000 : Int64)) FP.dconst1)), .val (.int (F3 w3 FP.dconst1)), .val (.int (1 : Int32)), .val (.int (F3 w3 c3)), .val (.int (1 : Int32))] [])) _
    refine XS.iload X10.here hx rfl (hb hby at_124) rfl ?_
    show Steps p.tables e below (T10.setTop (mkF m 126 #[.val (.long q1), .second, .val (.int p2), .val (.int p3), .val (.int kk6), .val (.ref b4), .val (.int (F3 (FP.l2d (240000 : Int64)) FP.dconst1)), .val (.int (F3 w3 FP.dconst1)), .val (.int (1 : Int32)), .val (.int (F3 w3 c3)), .val (.int (1 : Int32))] [(.int (F3 w3 FP.dconst1))])) _
    refine XS.iload X10.here hx rfl (hb hby at_126) rfl ?_
    show Steps p.tables e below (T10.setTop (mkF m 128 #[.val (.long q1), .second, .val (.int p2), .val (.int p3), .val (.int kk6), .val (.ref b4), .val (.int (F3 (FP.l2d (240000 : Int64)) FP.dconst1)), .val (.int (F3 w3 FP.dconst1)), .val (.int (1 : Int32)), .val (.int (F3 w3 c3)), .val (.int (1 : Int32))] [(.int (1 : Int32)), (.int (F3 w3 FP.dconst1))])) _
    refine XS.icmpNo X10.here hx rfl (hb hby at_128) rfl (teq hq2).2 ?_
    show Steps p.tables e below (T10.setTop (mkF m 131 #[.val (.long q1), .second, .val (.int p2), .val (.int p3), .val (.int kk6), .val (.ref b4), .val (.int (F3 (FP.l2d (240000 : Int64)) FP.dconst1)), .val (.int (F3 w3 FP.dconst1)), .val (.int (1 : Int32)), .val (.int (F3 w3 c3)), .val (.int (1 : Int32))] [])) _
    refine XS.iload X10.here hx rfl (hb hby at_131) rfl ?_
    show Steps p.tables e below (T10.setTop (mkF m 133 #[.val (.long q1), .second, .val (.int p2), .val (.int p3), .val (.int kk6), .val (.ref b4), .val (.int (F3 (FP.l2d (240000 : Int64)) FP.dconst1)), .val (.int (F3 w3 FP.dconst1)), .val (.int (1 : Int32)), .val (.int (F3 w3 c3)), .val (.int (1 : Int32))] [(.int (F3 w3 c3))])) _
    refine XS.iload X10.here hx rfl (hb hby at_133) rfl ?_
    show Steps p.tables e below (T10.setTop (mkF m 135 #[.val (.long q1), .second, .val (.int p2), .val (.int p3), .val (.int kk6), .val (.ref b4), .val (.int (F3 (FP.l2d (240000 : Int64)) FP.dconst1)), .val (.int (F3 w3 FP.dconst1)), .val (.int (1 : Int32)), .val (.int (F3 w3 c3)), .val (.int (1 : Int32))] [(.int (1 : Int32)), (.int (F3 w3 c3))])) _
    refine XS.icmpNo X10.here hx rfl (hb hby at_135) rfl (teq hq3).2 ?_
    show Steps p.tables e below (T10.setTop (mkF m 138 #[.val (.long q1), .second, .val (.int p2), .val (.int p3), .val (.int kk6), .val (.ref b4), .val (.int (F3 (FP.l2d (240000 : Int64)) FP.dconst1)), .val (.int (F3 w3 FP.dconst1)), .val (.int (1 : Int32)), .val (.int (F3 w3 c3)), .val (.int (1 : Int32))] [])) _
    refine XS.iconst X10.here hx rfl (hb hby at_138) ?_
    show Steps p.tables e below (T10.setTop (mkF m 139 #[.val (.long q1), .second, .val (.int p2), .val (.int p3), .val (.int kk6), .val (.ref b4), .val (.int (F3 (FP.l2d (240000 : Int64)) FP.dconst1)), .val (.int (F3 w3 FP.dconst1)), .val (.int (1 : Int32)), .val (.int (F3 w3 c3)), .val (.int (1 : Int32))] [(.int (1 : Int32))])) _
    refine XS.goto X10.here hx rfl (pc0 := 139) (pc' := 143) rfl (hb hby at_139) (by decide) (by decide) ?_
    show Steps p.tables e below (T10.setTop (mkF m 143 #[.val (.long q1), .second, .val (.int p2), .val (.int p3), .val (.int kk6), .val (.ref b4), .val (.int (F3 (FP.l2d (240000 : Int64)) FP.dconst1)), .val (.int (F3 w3 FP.dconst1)), .val (.int (1 : Int32)), .val (.int (F3 w3 c3)), .val (.int (1 : Int32))] [(.int (1 : Int32))])) _
    exact retN X10 hx (t := .boolean) Bd.returns (by simp) (hb hby at_143) hr
  · show QL n0 _ T10.heap _
    exact ⟨rfl, N10⟩
set_option maxRecDepth 65536 in
set_option maxHeartbeats 40000000 in
theorem rm0_ffftfff (l : Launch) (Z : State) (a0 : Array Value) (hw : ∀ d ∈ tables_1, d.before a0 Z = true) (ws : List Jvm.Cond) (q1 : Int64) (p2 : Int32) (p3 : Int32) (kk6 : Int32) (w1 : UInt64) (w2 : UInt64) (w3 : UInt64) (c1 : UInt64) (c2 : UInt64) (c3 : UInt64) (h0 : Heap) (n0 : Nat) (Z0 : n0 ≤ h0.size) (hk6 : ((1 : Int32) + (p2 &&& (1073741823 : Int32))) = kk6) (hw1 : (FP.dsub (FP.l2d (F5 q1 (240000 : Int64))) (FP.l2d (240000 : Int64))) = w1) (hn1 : Jvm.Free.Fl.NoNaN64 (FP.dsub (FP.l2d (F5 q1 (240000 : Int64))) (FP.l2d (240000 : Int64)))) (hw2 : (FP.ddiv w1 (4620693217682128896 : UInt64)) = w2) (hn2 : Jvm.Free.Fl.NoNaN64 (FP.ddiv w1 (4620693217682128896 : UInt64))) (hw3 : (FP.dadd (FP.l2d (240000 : Int64)) w2) = w3) (hn3 : Jvm.Free.Fl.NoNaN64 (FP.dadd (FP.l2d (240000 : Int64)) w2)) (hx1 : (FP.dsub (FP.i2d kk6) FP.dconst1) = c1) (hm1 : Jvm.Free.Fl.NoNaN64 (FP.dsub (FP.i2d kk6) FP.dconst1)) (hx2 : (FP.ddiv c1 (4620693217682128896 : UInt64)) = c2) (hm2 : Jvm.Free.Fl.NoNaN64 (FP.ddiv c1 (4620693217682128896 : UInt64))) (hx3 : (FP.dadd FP.dconst1 c2) = c3) (hm3 : Jvm.Free.Fl.NoNaN64 (FP.dadd FP.dconst1 c2)) (S0 : Sta Z h0 "com/example/tanager/tanager/Polling" "LONGEST_WAIT_COUNTED" "J" (.long (240000 : Int64))) (S0' : Sta Z h0 "com/example/tanager/tanager/Polling" "NANOS" "J" (.long (30000 : Int64))) (hc27 : ¬ ((p3 &&& (1 : Int32)) = (0 : Int32))) (hc48 : (lcmpW q1 (-1440000 : Int64)) < (0 : Int32)) (hc103 : (lcmpW q1 (-1440000 : Int64)) < (0 : Int32)) (hc109 : ¬ (kk6 < (5 : Int32))) (hq1 : (F3 (FP.l2d (240000 : Int64)) FP.dconst1) = (0 : Int32)) (hq2 : (F3 w3 FP.dconst1) = (1 : Int32)) (hq3 : (F3 w3 c3) = (0 : Int32)) :
    MetFree l x (head1 (Jvm.Cond.code x code maxLocals ret :: ws) room_1) (fun a U => a = #[(.long q1), (.int p2), (.int p3)] ∧ Z.Warmed39 U.vm ∧ U.heap = h0) (fun _ _ _ _ _ => True) (fun _ U o U' => ∃ v L, o = .returned v ∧ QL n0 v U'.heap L ∧ FrameEnd U o U' L room_1.cells room_1.slots) := by
  refine MetFree.of_bodySF (plainFor_of_name pn_0) hisR ?_
  intro p e s m args below meth c s₁ Bd hml0 hP hK
  obtain ⟨rfl, hZ, hh⟩ := hP
  have hx := Bd.exec
  have hby := Bd.bytes
  have hml : c.maxLocals = 11 := hml0
  have hown : s.vm.findClass "com/example/tanager/tanager/PollingWorthItPinLaw" = some m.cls := findClass_of_methodNamed Bd.named
  have hnm := (name_of_methodNamed Bd.named Bd.method).1
  have X0 : Stand p l e room_1 s m #[(.long q1), (.int p2), (.int p3)] below meth c s₁ [] 0 0 := Stand.of_body Bd
  have e0 : s₁.heap = h0 := by rw [← hh, Bd.state]; rfl
  have N0 := Fr.nil n0
  have pre0 : ∀ t, Steps p.tables e below (s₁.setTop (mkF m 0 #[.val (.long q1), .second, .val (.int p2), .val (.int p3), .unset, .unset, .unset, .unset, .unset, .unset, .unset] [])) t → Steps p.tables e below (s₁.setTop (entryFrame m #[(.long q1), (.int p2), (.int p3)] maxLocals)) t := fun t k => castTop (ef_0 m q1 p2 p3) k
  obtain ⟨T4, h4, X4, e4, E4, A4, D4, -, st4⟩ := newO X0 hx hZ hown (hw _ (List.mem_of_getElem? (i := 1) rfl)) (hw _ (List.mem_of_getElem? (i := 2) rfl)) (hw _ (List.mem_of_getElem? (i := 3) rfl)) e0 (g := (mkF m 8 #[.val (.long q1), .second, .val (.int p2), .val (.int p3), .val (.int kk6), .unset, .unset, .unset, .unset, .unset, .unset] [])) rfl (hb hby at_8) (by decide) (by decide)
  obtain ⟨b4, g4⟩ : ∃ z, z = h0.size := ⟨_, rfl⟩
  rw [← g4] at A4 D4 st4
  have F_recentWaitNanos_b4 : Fld Z h4 b4 "com/example/tanager/tanager/Polling" "recentWaitNanos" "D" (.double (0 : UInt64)) := D4 (Or.inl (hw _ (List.mem_of_getElem? (i := 13) rfl))) (ty := .double) (by decide)
  have F_recentCalls_b4 : Fld Z h4 b4 "com/example/tanager/tanager/Polling" "recentCalls" "D" (.double (0 : UInt64)) := D4 (Or.inl (hw _ (List.mem_of_getElem? (i := 15) rfl))) (ty := .double) (by decide)
  have E_b4 := A4
  have g_b4 : n0 ≤ b4 := Nat.le_trans Z0 (Nat.le_of_eq g4.symm)
  have sz_b4 : h0.size ≤ b4 := (Nat.le_trans (Keep.refl h0 []).1 (Nat.le_of_eq g4.symm))
  have K4 : Keep h0 h4 [] := (Keep.refl h0 []).ext E4
  obtain ⟨_, _, ⟨T5, L5, k5, n5⟩, -, X5, ⟨Lc5, hQ5, l5, y5, z5⟩, st5⟩ := X4.specialBack hx (y := (⟨"com/example/tanager/tanager/Polling", "<init>", "()V"⟩ : MethodName)) rfl hown (mvT hZ (hw _ (List.mem_of_getElem? (i := 4) rfl))) (mvT hZ (hw _ (List.mem_of_getElem? (i := 5) rfl))) (mvT hZ (hw _ (List.mem_of_getElem? (i := 6) rfl))) (by decide) (backOf (W := 1) (rm1 l Z a0 hw [] b4 (240000 : Int64) _ _ h4 n0 (Nat.le_trans Z0 E4.1) (S0.ext E4) E_b4 F_recentWaitNanos_b4 g_b4 F_recentCalls_b4) hZ (hw _ (List.mem_of_getElem? (i := 6) rfl)) (hw _ (List.mem_of_getElem? (i := 3) rfl)) (by decide) (by decide)) (g := (mkF m 12 #[.val (.long q1), .second, .val (.int p2), .val (.int p3), .val (.int kk6), .unset, .unset, .unset, .unset, .unset, .unset] [(.ref b4), (.ref b4)])) rfl (by rw [hml]; rfl) (Steps.refl _) (a := b4) (argsL := []) (rest := [(.ref b4)]) (lenOf pd_0_0 rfl) rfl (by show 2 * 0 + _ ≤ _; exact Nat.le_of_eq rfl) (hb hby at_12) (fun _ _ => ⟨rfl, e4, (by decide : 1 + 0 ≤ _), (by decide : 2 + 0 ≤ _)⟩)
  dsimp only [Pt.U, Pt.locs, Pt.cells, Pt.slots] at X5 l5 y5 z5 st5 hQ5
  subst l5 y5 z5
  obtain ⟨rfl, N5q, K5c, E5, Fw5, Fc5⟩ := hQ5
  have Z5 : n0 ≤ T5.heap.size := Nat.le_trans (Nat.le_trans Z0 E4.1) K5c.1
  have S5 := own_sta_keep (S0.ext E4) K5c E_b4
  have S5' := own_sta_keep (S0'.ext E4) K5c E_b4
  have N5 := Fr.app N0 N5q
  obtain ⟨cq6, kq6, q6a, q6b, q6c⟩ := isOf hZ rfl (E_b4.keep K5c)
  obtain ⟨_, _, ⟨T6, L6, k6, n6⟩, -, X6, ⟨Lc6, hQ6, l6, y6, z6⟩, st6⟩ := X5.virtualBack hx (y := (⟨"com/example/tanager/tanager/Polling", "worthIt", "()Z"⟩ : MethodName)) (z := (⟨"com/example/tanager/tanager/Polling", "worthIt", "()Z"⟩ : MethodName)) hown (mvT hZ (hw _ (List.mem_of_getElem? (i := 16) rfl))) (mvT hZ (hw _ (List.mem_of_getElem? (i := 17) rfl))) (notFace_of_selects (args := #[]) (mvT hZ (hw _ (List.mem_of_getElem? (i := 19) rfl)))) (mvT hZ (hw _ (List.mem_of_getElem? (i := 19) rfl))) (mvT hZ (hw _ (List.mem_of_getElem? (i := 18) rfl))) (by decide) (backOf (W := 0) (rm3 l Z a0 hw [] b4 (FP.l2d (240000 : Int64)) FP.dconst1 T5.heap n0 Z5 Fw5 S5' Fc5) hZ (hw _ (List.mem_of_getElem? (i := 20) rfl)) (hw _ (List.mem_of_getElem? (i := 3) rfl)) (by decide) (by decide)) q6a q6c (g := (mkF m 19 #[.val (.long q1), .second, .val (.int p2), .val (.int p3), .val (.int kk6), .val (.ref b4), .unset, .unset, .unset, .unset, .unset] [(.ref b4)])) rfl (by rw [hml]; rfl) (Steps.refl _) (argsL := []) (rest := []) (lenOf pd_0_1 rfl) rfl (by show 2 * 0 + _ ≤ _; exact Nat.le_of_eq rfl) (hb hby at_19) (fun _ _ => ⟨rfl, rfl, (by decide : 1 + 0 ≤ _), (by decide : 2 + 0 ≤ _)⟩)
  dsimp only [Pt.U, Pt.locs, Pt.cells, Pt.slots] at X6 l6 y6 z6 st6 hQ6
  subst l6 y6 z6
  obtain ⟨rfl, N6q, eh6⟩ := hQ6
  have K6c : Keep T5.heap T6.heap [] := by rw [eh6]; exact Keep.refl _ _
  have Z6 : n0 ≤ T6.heap.size := by rw [eh6]; exact Z5
  have E6 := E5.keep K6c
  have Fw6 := Fw5.keep K6c (by simp)
  have Fc6 := Fc5.keep K6c (by simp)
  have S6 : Sta Z T6.heap "com/example/tanager/tanager/Polling" "LONGEST_WAIT_COUNTED" "J" (.long (240000 : Int64)) := by rw [eh6]; exact S5
  have S6' : Sta Z T6.heap "com/example/tanager/tanager/Polling" "NANOS" "J" (.long (30000 : Int64)) := by rw [eh6]; exact S5'
  have N6 := Fr.app N5 N6q
  obtain ⟨cq7, kq7, q7a, q7b, q7c⟩ := isOf hZ rfl ((E_b4.keep K5c).keep K6c)
  obtain ⟨_, _, ⟨T7, L7, k7, n7⟩, -, X7, ⟨Lc7, hQ7, l7, y7, z7⟩, st7⟩ := X6.virtualBack hx (y := (⟨"com/example/tanager/tanager/Polling", "waited", "(J)V"⟩ : MethodName)) (z := (⟨"com/example/tanager/tanager/Polling", "waited", "(J)V"⟩ : MethodName)) hown (mvT hZ (hw _ (List.mem_of_getElem? (i := 23) rfl))) (mvT hZ (hw _ (List.mem_of_getElem? (i := 24) rfl))) (notFace_of_selects (args := #[]) (mvT hZ (hw _ (List.mem_of_getElem? (i := 26) rfl)))) (mvT hZ (hw _ (List.mem_of_getElem? (i := 26) rfl))) (mvT hZ (hw _ (List.mem_of_getElem? (i := 25) rfl))) (by decide) (backOf (W := 0) (rm4 l Z a0 hw [] b4 q1 (FP.l2d (240000 : Int64)) w1 w2 w3 FP.dconst1 T6.heap n0 Z6 Fw6 S6 E6 Fc6 g_b4 hw1 hn1 hw2 hn2 hw3 hn3) hZ (hw _ (List.mem_of_getElem? (i := 27) rfl)) (hw _ (List.mem_of_getElem? (i := 3) rfl)) (by decide) (by decide)) q7a q7c (g := (mkF m 33 #[.val (.long q1), .second, .val (.int p2), .val (.int p3), .val (.int kk6), .val (.ref b4), .val (.int (F3 (FP.l2d (240000 : Int64)) FP.dconst1)), .unset, .unset, .unset, .unset] [(.long q1), (.ref b4)])) rfl (by rw [hml]; rfl) (Steps.refl _) (argsL := [(.long q1)]) (rest := []) (lenOf pd_0_2 rfl) rfl (by show 2 * 0 + _ ≤ _; exact Nat.le_of_eq rfl) (hb hby at_33) (fun _ _ => ⟨rfl, rfl, (by decide : 1 + 0 ≤ _), (by decide : 2 + 0 ≤ _)⟩)
  dsimp only [Pt.U, Pt.locs, Pt.cells, Pt.slots] at X7 l7 y7 z7 st7 hQ7
  subst l7 y7 z7
  obtain ⟨rfl, N7q, K7c, E7, Fw7, Fc7⟩ := hQ7
  have Z7 : n0 ≤ T7.heap.size := Nat.le_trans Z6 K7c.1
  have S7 := own_sta_keep S6 K7c E6
  have S7' := own_sta_keep S6' K7c E6
  have N7 := Fr.app N6 N7q
  obtain ⟨cq8, kq8, q8a, q8b, q8c⟩ := isOf hZ rfl (((E_b4.keep K5c).keep K6c).keep K7c)
  obtain ⟨_, _, ⟨T8, L8, k8, n8⟩, -, X8, ⟨Lc8, hQ8, l8, y8, z8⟩, st8⟩ := X7.virtualBack hx (y := (⟨"com/example/tanager/tanager/Polling", "worthIt", "()Z"⟩ : MethodName)) (z := (⟨"com/example/tanager/tanager/Polling", "worthIt", "()Z"⟩ : MethodName)) hown (mvT hZ (hw _ (List.mem_of_getElem? (i := 16) rfl))) (mvT hZ (hw _ (List.mem_of_getElem? (i := 17) rfl))) (notFace_of_selects (args := #[]) (mvT hZ (hw _ (List.mem_of_getElem? (i := 19) rfl)))) (mvT hZ (hw _ (List.mem_of_getElem? (i := 19) rfl))) (mvT hZ (hw _ (List.mem_of_getElem? (i := 18) rfl))) (by decide) (backOf (W := 0) (rm3 l Z a0 hw [] b4 w3 FP.dconst1 T7.heap n0 Z7 Fw7 S7' Fc7) hZ (hw _ (List.mem_of_getElem? (i := 20) rfl)) (hw _ (List.mem_of_getElem? (i := 3) rfl)) (by decide) (by decide)) q8a q8c (g := (mkF m 38 #[.val (.long q1), .second, .val (.int p2), .val (.int p3), .val (.int kk6), .val (.ref b4), .val (.int (F3 (FP.l2d (240000 : Int64)) FP.dconst1)), .unset, .unset, .unset, .unset] [(.ref b4)])) rfl (by rw [hml]; rfl) (Steps.refl _) (argsL := []) (rest := []) (lenOf pd_0_1 rfl) rfl (by show 2 * 0 + _ ≤ _; exact Nat.le_of_eq rfl) (hb hby at_38) (fun _ _ => ⟨rfl, rfl, (by decide : 1 + 0 ≤ _), (by decide : 2 + 0 ≤ _)⟩)
  dsimp only [Pt.U, Pt.locs, Pt.cells, Pt.slots] at X8 l8 y8 z8 st8 hQ8
  subst l8 y8 z8
  obtain ⟨rfl, N8q, eh8⟩ := hQ8
  have K8c : Keep T7.heap T8.heap [] := by rw [eh8]; exact Keep.refl _ _
  have Z8 : n0 ≤ T8.heap.size := by rw [eh8]; exact Z7
  have E8 := E7.keep K8c
  have Fw8 := Fw7.keep K8c (by simp)
  have Fc8 := Fc7.keep K8c (by simp)
  have S8 : Sta Z T8.heap "com/example/tanager/tanager/Polling" "LONGEST_WAIT_COUNTED" "J" (.long (240000 : Int64)) := by rw [eh8]; exact S7
  have S8' : Sta Z T8.heap "com/example/tanager/tanager/Polling" "NANOS" "J" (.long (30000 : Int64)) := by rw [eh8]; exact S7'
  have N8 := Fr.app N7 N8q
  obtain ⟨cq9, kq9, q9a, q9b, q9c⟩ := isOf hZ rfl ((((E_b4.keep K5c).keep K6c).keep K7c).keep K8c)
  obtain ⟨_, _, ⟨T9, L9, k9, n9⟩, -, X9, ⟨Lc9, hQ9, l9, y9, z9⟩, st9⟩ := X8.virtualBack hx (y := (⟨"com/example/tanager/tanager/Polling", "counted", "(I)V"⟩ : MethodName)) (z := (⟨"com/example/tanager/tanager/Polling", "counted", "(I)V"⟩ : MethodName)) hown (mvT hZ (hw _ (List.mem_of_getElem? (i := 34) rfl))) (mvT hZ (hw _ (List.mem_of_getElem? (i := 35) rfl))) (notFace_of_selects (args := #[]) (mvT hZ (hw _ (List.mem_of_getElem? (i := 37) rfl)))) (mvT hZ (hw _ (List.mem_of_getElem? (i := 37) rfl))) (mvT hZ (hw _ (List.mem_of_getElem? (i := 36) rfl))) (by decide) (backOf (W := 0) (rm6 l Z a0 hw [] b4 kk6 FP.dconst1 c1 c2 c3 w3 T8.heap n0 Z8 Fc8 E8 Fw8 g_b4 hx1 hm1 hx2 hm2 hx3 hm3) hZ (hw _ (List.mem_of_getElem? (i := 38) rfl)) (hw _ (List.mem_of_getElem? (i := 3) rfl)) (by decide) (by decide)) q9a q9c (g := (mkF m 62 #[.val (.long q1), .second, .val (.int p2), .val (.int p3), .val (.int kk6), .val (.ref b4), .val (.int (F3 (FP.l2d (240000 : Int64)) FP.dconst1)), .val (.int (F3 w3 FP.dconst1)), .val (.int (1 : Int32)), .unset, .unset] [(.int kk6), (.ref b4)])) rfl (by rw [hml]; rfl) (Steps.refl _) (argsL := [(.int kk6)]) (rest := []) (lenOf pd_0_4 rfl) rfl (by show 2 * 0 + _ ≤ _; exact Nat.le_of_eq rfl) (hb hby at_62) (fun _ _ => ⟨rfl, rfl, (by decide : 1 + 0 ≤ _), (by decide : 2 + 0 ≤ _)⟩)
  dsimp only [Pt.U, Pt.locs, Pt.cells, Pt.slots] at X9 l9 y9 z9 st9 hQ9
  subst l9 y9 z9
  obtain ⟨rfl, N9q, K9c, E9, Fw9, Fc9⟩ := hQ9
  have Z9 : n0 ≤ T9.heap.size := Nat.le_trans Z8 K9c.1
  have S9 := own_sta_keep S8 K9c E8
  have S9' := own_sta_keep S8' K9c E8
  have N9 := Fr.app N8 N9q
  obtain ⟨cq10, kq10, q10a, q10b, q10c⟩ := isOf hZ rfl (((((E_b4.keep K5c).keep K6c).keep K7c).keep K8c).keep K9c)
  obtain ⟨_, _, ⟨T10, L10, k10, n10⟩, -, X10, ⟨Lc10, hQ10, l10, y10, z10⟩, st10⟩ := X9.virtualBack hx (y := (⟨"com/example/tanager/tanager/Polling", "worthIt", "()Z"⟩ : MethodName)) (z := (⟨"com/example/tanager/tanager/Polling", "worthIt", "()Z"⟩ : MethodName)) hown (mvT hZ (hw _ (List.mem_of_getElem? (i := 16) rfl))) (mvT hZ (hw _ (List.mem_of_getElem? (i := 17) rfl))) (notFace_of_selects (args := #[]) (mvT hZ (hw _ (List.mem_of_getElem? (i := 19) rfl)))) (mvT hZ (hw _ (List.mem_of_getElem? (i := 19) rfl))) (mvT hZ (hw _ (List.mem_of_getElem? (i := 18) rfl))) (by decide) (backOf (W := 0) (rm3 l Z a0 hw [] b4 w3 c3 T9.heap n0 Z9 Fw9 S9' Fc9) hZ (hw _ (List.mem_of_getElem? (i := 20) rfl)) (hw _ (List.mem_of_getElem? (i := 3) rfl)) (by decide) (by decide)) q10a q10c (g := (mkF m 93 #[.val (.long q1), .second, .val (.int p2), .val (.int p3), .val (.int kk6), .val (.ref b4), .val (.int (F3 (FP.l2d (240000 : Int64)) FP.dconst1)), .val (.int (F3 w3 FP.dconst1)), .val (.int (1 : Int32)), .unset, .unset] [(.ref b4)])) rfl (by rw [hml]; rfl) (Steps.refl _) (argsL := []) (rest := []) (lenOf pd_0_1 rfl) rfl (by show 2 * 0 + _ ≤ _; exact Nat.le_of_eq rfl) (hb hby at_93) (fun _ _ => ⟨rfl, rfl, (by decide : 1 + 0 ≤ _), (by decide : 2 + 0 ≤ _)⟩)
  dsimp only [Pt.U, Pt.locs, Pt.cells, Pt.slots] at X10 l10 y10 z10 st10 hQ10
  subst l10 y10 z10
  obtain ⟨rfl, N10q, eh10⟩ := hQ10
  have N10 := Fr.app N9 N10q
  obtain ⟨fs, hr, hrun, hended, hW, hsame⟩ := X10.leave (v := some (.int (1 : Int32))) (fun h => by rw [Bd.returns] at h; cases h)
  refine ⟨_, _, pre0 _ ?_, hrun, hended, _, _, rfl, ?_, ⟨_, rfl⟩, hW, hsame.mono (by decide) (by decide)⟩
  · show Steps p.tables e below (s₁.setTop (mkF m 0 #[.val (.long q1), .second, .val (.int p2), .val (.int p3), .unset, .unset, .unset, .unset, .unset, .unset, .unset] [])) _
    refine XS.iconst X0.here hx rfl (hb hby at_0) ?_
    show Steps p.tables e below (s₁.setTop (mkF m 1 #[.val (.long q1), .second, .val (.int p2), .val (.int p3), .unset, .unset, .unset, .unset, .unset, .unset, .unset] [(.int (1 : Int32))])) _
    refine XS.iloadN X0.here hx rfl (hb hby at_1) rfl ?_
    show Steps p.tables e below (s₁.setTop (mkF m 2 #[.val (.long q1), .second, .val (.int p2), .val (.int p3), .unset, .unset, .unset, .unset, .unset, .unset, .unset] [(.int p2), (.int (1 : Int32))])) _
    refine X0.ldcInt hx hown (mvT hZ (hw _ (List.mem_of_getElem? (i := 0) rfl))) (g := (mkF m 2 #[.val (.long q1), .second, .val (.int p2), .val (.int p3), .unset, .unset, .unset, .unset, .unset, .unset, .unset] [(.int p2), (.int (1 : Int32))])) rfl (hb hby at_2) _ ?_
    show Steps p.tables e below (s₁.setTop (mkF m 4 #[.val (.long q1), .second, .val (.int p2), .val (.int p3), .unset, .unset, .unset, .unset, .unset, .unset, .unset] [(.int (1073741823 : Int32)), (.int p2), (.int (1 : Int32))])) _
    refine XS.iand X0.here hx rfl (hb hby at_4) rfl ?_
    show Steps p.tables e below (s₁.setTop (mkF m 5 #[.val (.long q1), .second, .val (.int p2), .val (.int p3), .unset, .unset, .unset, .unset, .unset, .unset, .unset] [(.int (p2 &&& (1073741823 : Int32))), (.int (1 : Int32))])) _
    refine XS.iadd X0.here hx rfl (hb hby at_5) rfl ?_
    show Steps p.tables e below (s₁.setTop (mkF m 6 #[.val (.long q1), .second, .val (.int p2), .val (.int p3), .unset, .unset, .unset, .unset, .unset, .unset, .unset] [(.int ((1 : Int32) + (p2 &&& (1073741823 : Int32))))])) _
    refine XS.istore X0.here hx rfl (hb hby at_6) rfl (l' := #[.val (.long q1), .second, .val (.int p2), .val (.int p3), .val (.int ((1 : Int32) + (p2 &&& (1073741823 : Int32)))), .unset, .unset, .unset, .unset, .unset, .unset]) rfl ?_
    show Steps p.tables e below (s₁.setTop (mkF m 8 #[.val (.long q1), .second, .val (.int p2), .val (.int p3), .val (.int ((1 : Int32) + (p2 &&& (1073741823 : Int32)))), .unset, .unset, .unset, .unset, .unset, .unset] [])) _
    rw [hk6]
    show Steps p.tables e below (s₁.setTop (mkF m 8 #[.val (.long q1), .second, .val (.int p2), .val (.int p3), .val (.int kk6), .unset, .unset, .unset, .unset, .unset, .unset] [])) _
    refine st4 _ ?_
    show Steps p.tables e below (T4.setTop (mkF m 11 #[.val (.long q1), .second, .val (.int p2), .val (.int p3), .val (.int kk6), .unset, .unset, .unset, .unset, .unset, .unset] [(.ref b4)])) _
    refine XS.dup X4.here hx rfl (hb hby at_11) rfl rfl ?_
    show Steps p.tables e below (T4.setTop (mkF m 12 #[.val (.long q1), .second, .val (.int p2), .val (.int p3), .val (.int kk6), .unset, .unset, .unset, .unset, .unset, .unset] [(.ref b4), (.ref b4)])) _
    refine st5.trans ?_
    show Steps p.tables e below (T5.setTop (mkF m 15 #[.val (.long q1), .second, .val (.int p2), .val (.int p3), .val (.int kk6), .unset, .unset, .unset, .unset, .unset, .unset] [(.ref b4)])) _
    refine XS.astore X5.here hx rfl (hb hby at_15) rfl rfl (l' := #[.val (.long q1), .second, .val (.int p2), .val (.int p3), .val (.int kk6), .val (.ref b4), .unset, .unset, .unset, .unset, .unset]) rfl ?_
    show Steps p.tables e below (T5.setTop (mkF m 17 #[.val (.long q1), .second, .val (.int p2), .val (.int p3), .val (.int kk6), .val (.ref b4), .unset, .unset, .unset, .unset, .unset] [])) _
    refine XS.aload X5.here hx rfl (hb hby at_17) rfl rfl ?_
    show Steps p.tables e below (T5.setTop (mkF m 19 #[.val (.long q1), .second, .val (.int p2), .val (.int p3), .val (.int kk6), .val (.ref b4), .unset, .unset, .unset, .unset, .unset] [(.ref b4)])) _
    refine st6.trans ?_
    show Steps p.tables e below (T6.setTop (mkF m 22 #[.val (.long q1), .second, .val (.int p2), .val (.int p3), .val (.int kk6), .val (.ref b4), .unset, .unset, .unset, .unset, .unset] [(.int (F3 (FP.l2d (240000 : Int64)) FP.dconst1))])) _
    refine XS.istore X6.here hx rfl (hb hby at_22) rfl (l' := #[.val (.long q1), .second, .val (.int p2), .val (.int p3), .val (.int kk6), .val (.ref b4), .val (.int (F3 (FP.l2d (240000 : Int64)) FP.dconst1)), .unset, .unset, .unset, .unset]) rfl ?_
    show Steps p.tables e below (T6.setTop (mkF m 24 #[.val (.long q1), .second, .val (.int p2), .val (.int p3), .val (.int kk6), .val (.ref b4), .val (.int (F3 (FP.l2d (240000 : Int64)) FP.dconst1)), .unset, .unset, .unset, .unset] [])) _
    refine XS.iloadN X6.here hx rfl (hb hby at_24) rfl ?_
    show Steps p.tables e below (T6.setTop (mkF m 25 #[.val (.long q1), .second, .val (.int p2), .val (.int p3), .val (.int kk6), .val (.ref b4), .val (.int (F3 (FP.l2d (240000 : Int64)) FP.dconst1)), .unset, .unset, .unset, .unset] [(.int p3)])) _
    refine XS.iconst X6.here hx rfl (hb hby at_25) ?_
    show Steps p.tables e below (T6.setTop (mkF m 26 #[.val (.long q1), .second, .val (.int p2), .val (.int p3), .val (.int kk6), .val (.ref b4), .val (.int (F3 (FP.l2d (240000 : Int64)) FP.dconst1)), .unset, .unset, .unset, .unset] [(.int (1 : Int32)), (.int p3)])) _
    refine XS.iand X6.here hx rfl (hb hby at_26) rfl ?_
    show Steps p.tables e below (T6.setTop (mkF m 27 #[.val (.long q1), .second, .val (.int p2), .val (.int p3), .val (.int kk6), .val (.ref b4), .val (.int (F3 (FP.l2d (240000 : Int64)) FP.dconst1)), .unset, .unset, .unset, .unset] [(.int (p3 &&& (1 : Int32)))])) _
    refine XS.ifNo X6.here hx rfl (hb hby at_27) rfl ((if0 _ _).trans (feq hc27).1) ?_
    show Steps p.tables e below (T6.setTop (mkF m 30 #[.val (.long q1), .second, .val (.int p2), .val (.int p3), .val (.int kk6), .val (.ref b4), .val (.int (F3 (FP.l2d (240000 : Int64)) FP.dconst1)), .unset, .unset, .unset, .unset] [])) _
    refine XS.aload X6.here hx rfl (hb hby at_30) rfl rfl ?_
    show Steps p.tables e below (T6.setTop (mkF m 32 #[.val (.long q1), .second, .val (.int p2), .val (.int p3), .val (.int kk6), .val (.ref b4), .val (.int (F3 (FP.l2d (240000 : Int64)) FP.dconst1)), .unset, .unset, .unset, .unset] [(.ref b4)])) _
    refine XS.lloadN X6.here hx rfl (hb hby at_32) rfl ?_
    show Steps p.tables e below (T6.setTop (mkF m 33 #[.val (.long q1), .second, .val (.int p2), .val (.int p3), .val (.int kk6), .val (.ref b4), .val (.int (F3 (FP.l2d (240000 : Int64)) FP.dconst1)), .unset, .unset, .unset, .unset] [(.long q1), (.ref b4)])) _
    refine st7.trans ?_
    show Steps p.tables e below (T7.setTop (mkF m 36 #[.val (.long q1), .second, .val (.int p2), .val (.int p3), .val (.int kk6), .val (.ref b4), .val (.int (F3 (FP.l2d (240000 : Int64)) FP.dconst1)), .unset, .unset, .unset, .unset] [])) _
    refine XS.aload X7.here hx rfl (hb hby at_36) rfl rfl ?_
    show Steps p.tables e below (T7.setTop (mkF m 38 #[.val (.long q1), .second, .val (.int p2), .val (.int p3), .val (.int kk6), .val (.ref b4), .val (.int (F3 (FP.l2d (240000 : Int64)) FP.dconst1)), .unset, .unset, .unset, .unset] [(.ref b4)])) _
    refine st8.trans ?_
    show Steps p.tables e below (T8.setTop (mkF m 41 #[.val (.long q1), .second, .val (.int p2), .val (.int p3), .val (.int kk6), .val (.ref b4), .val (.int (F3 (FP.l2d (240000 : Int64)) FP.dconst1)), .unset, .unset, .unset, .unset] [(.int (F3 w3 FP.dconst1))])) _
    refine XS.istore X8.here hx rfl (hb hby at_41) rfl (l' := #[.val (.long q1), .second, .val (.int p2), .val (.int p3), .val (.int kk6), .val (.ref b4), .val (.int (F3 (FP.l2d (240000 : Int64)) FP.dconst1)), .val (.int (F3 w3 FP.dconst1)), .unset, .unset, .unset]) rfl ?_
    show Steps p.tables e below (T8.setTop (mkF m 43 #[.val (.long q1), .second, .val (.int p2), .val (.int p3), .val (.int kk6), .val (.ref b4), .val (.int (F3 (FP.l2d (240000 : Int64)) FP.dconst1)), .val (.int (F3 w3 FP.dconst1)), .unset, .unset, .unset] [])) _
    refine XS.lloadN X8.here hx rfl (hb hby at_43) rfl ?_
    show Steps p.tables e below (T8.setTop (mkF m 44 #[.val (.long q1), .second, .val (.int p2), .val (.int p3), .val (.int kk6), .val (.ref b4), .val (.int (F3 (FP.l2d (240000 : Int64)) FP.dconst1)), .val (.int (F3 w3 FP.dconst1)), .unset, .unset, .unset] [(.long q1)])) _
    refine X8.ldc2Long hx hown (mvT hZ (hw _ (List.mem_of_getElem? (i := 33) rfl))) (g := (mkF m 44 #[.val (.long q1), .second, .val (.int p2), .val (.int p3), .val (.int kk6), .val (.ref b4), .val (.int (F3 (FP.l2d (240000 : Int64)) FP.dconst1)), .val (.int (F3 w3 FP.dconst1)), .unset, .unset, .unset] [(.long q1)])) rfl (hb hby at_44) _ ?_
    show Steps p.tables e below (T8.setTop (mkF m 47 #[.val (.long q1), .second, .val (.int p2), .val (.int p3), .val (.int kk6), .val (.ref b4), .val (.int (F3 (FP.l2d (240000 : Int64)) FP.dconst1)), .val (.int (F3 w3 FP.dconst1)), .unset, .unset, .unset] [(.long (-1440000 : Int64)), (.long q1)])) _
    refine XS.lcmp X8.here hx rfl (hb hby at_47) rfl ?_
    show Steps p.tables e below (T8.setTop (mkF m 48 #[.val (.long q1), .second, .val (.int p2), .val (.int p3), .val (.int kk6), .val (.ref b4), .val (.int (F3 (FP.l2d (240000 : Int64)) FP.dconst1)), .val (.int (F3 w3 FP.dconst1)), .unset, .unset, .unset] [(.int (lcmpW q1 (-1440000 : Int64)))])) _
    refine XS.ifNo X8.here hx rfl (hb hby at_48) rfl ((if0 _ _).trans (tlt hc48).2.1) ?_
    show Steps p.tables e below (T8.setTop (mkF m 51 #[.val (.long q1), .second, .val (.int p2), .val (.int p3), .val (.int kk6), .val (.ref b4), .val (.int (F3 (FP.l2d (240000 : Int64)) FP.dconst1)), .val (.int (F3 w3 FP.dconst1)), .unset, .unset, .unset] [])) _
    refine XS.iconst X8.here hx rfl (hb hby at_51) ?_
    show Steps p.tables e below (T8.setTop (mkF m 52 #[.val (.long q1), .second, .val (.int p2), .val (.int p3), .val (.int kk6), .val (.ref b4), .val (.int (F3 (FP.l2d (240000 : Int64)) FP.dconst1)), .val (.int (F3 w3 FP.dconst1)), .unset, .unset, .unset] [(.int (1 : Int32))])) _
    refine XS.goto X8.here hx rfl (pc0 := 52) (pc' := 56) rfl (hb hby at_52) (by decide) (by decide) ?_
    show Steps p.tables e below (T8.setTop (mkF m 56 #[.val (.long q1), .second, .val (.int p2), .val (.int p3), .val (.int kk6), .val (.ref b4), .val (.int (F3 (FP.l2d (240000 : Int64)) FP.dconst1)), .val (.int (F3 w3 FP.dconst1)), .unset, .unset, .unset] [(.int (1 : Int32))])) _
    refine XS.istore X8.here hx rfl (hb hby at_56) rfl (l' := #[.val (.long q1), .second, .val (.int p2), .val (.int p3), .val (.int kk6), .val (.ref b4), .val (.int (F3 (FP.l2d (240000 : Int64)) FP.dconst1)), .val (.int (F3 w3 FP.dconst1)), .val (.int (1 : Int32)), .unset, .unset]) rfl ?_
    show Steps p.tables e below (T8.setTop (mkF m 58 #[.val (.long q1), .second, .val (.int p2), .val (.int p3), .val (.int kk6), .val (.ref b4), .val (.int (F3 (FP.l2d (240000 : Int64)) FP.dconst1)), .val (.int (F3 w3 FP.dconst1)), .val (.int (1 : Int32)), .unset, .unset] [])) _
    refine XS.aload X8.here hx rfl (hb hby at_58) rfl rfl ?_
    show Steps p.tables e below (T8.setTop (mkF m 60 #[.val (.long q1), .second, .val (.int p2), .val (.int p3), .val (.int kk6), .val (.ref b4), .val (.int (F3 (FP.l2d (240000 : Int64)) FP.dconst1)), .val (.int (F3 w3 FP.dconst1)), .val (.int (1 : Int32)), .unset, .unset] [(.ref b4)])) _
    refine XS.iload X8.here hx rfl (hb hby at_60) rfl ?_
    show Steps p.tables e below (T8.setTop (mkF m 62 #[.val (.long q1), .second, .val (.int p2), .val (.int p3), .val (.int kk6), .val (.ref b4), .val (.int (F3 (FP.l2d (240000 : Int64)) FP.dconst1)), .val (.int (F3 w3 FP.dconst1)), .val (.int (1 : Int32)), .unset, .unset] [(.int kk6), (.ref b4)])) _
    refine st9.trans ?_
    show Steps p.tables e below (T9.setTop (mkF m 65 #[.val (.long q1), .second, .val (.int p2), .val (.int p3), .val (.int kk6), .val (.ref b4), .val (.int (F3 (FP.l2d (240000 : Int64)) FP.dconst1)), .val (.int (F3 w3 FP.dconst1)), .val (.int (1 : Int32)), .unset, .unset] [])) _
    refine XS.goto X9.here hx rfl (pc0 := 65) (pc' := 91) rfl (hb hby at_65) (by decide) (by decide) ?_
    show Steps p.tables e below (T9.setTop (mkF m 91 #[.val (.long q1), .second, .val (.int p2), .val (.int p3), .val (.int kk6), .val (.ref b4), .val (.int (F3 (FP.l2d (240000 : Int64)) FP.dconst1)), .val (.int (F3 w3 FP.dconst1)), .val (.int (1 : Int32)), .unset, .unset] [])) _
    refine XS.aload X9.here hx rfl (hb hby at_91) rfl rfl ?_
    show Steps p.tables e below (T9.setTop (mkF m 93 #[.val (.long q1), .second, .val (.int p2), .val (.int p3), .val (.int kk6), .val (.ref b4), .val (.int (F3 (FP.l2d (240000 : Int64)) FP.dconst1)), .val (.int (F3 w3 FP.dconst1)), .val (.int (1 : Int32)), .unset, .unset] [(.ref b4)])) _
    refine st10.trans ?_
    show Steps p.tables e below (T10.setTop (mkF m 96 #[.val (.long q1), .second, .val (.int p2), .val (.int p3), .val (.int kk6), .val (.ref b4), .val (.int (F3 (FP.l2d (240000 : Int64)) FP.dconst1)), .val (.int (F3 w3 FP.dconst1)), .val (.int (1 : Int32)), .unset, .unset] [(.int (F3 w3 c3))])) _
    refine XS.istore X10.here hx rfl (hb hby at_96) rfl (l' := #[.val (.long q1), .second, .val (.int p2), .val (.int p3), .val (.int kk6), .val (.ref b4), .val (.int (F3 (FP.l2d (240000 : Int64)) FP.dconst1)), .val (.int (F3 w3 FP.dconst1)), .val (.int (1 : Int32)), .val (.int (F3 w3 c3)), .unset]) rfl ?_
    show Steps p.tables e below (T10.setTop (mkF m 98 #[.val (.long q1), .second, .val (.int p2), .val (.int p3), .val (.int kk6), .val (.ref b4), .val (.int (F3 (FP.l2d (240000 : Int64)) FP.dconst1)), .val (.int (F3 w3 FP.dconst1)), .val (.int (1 : Int32)), .val (.int (F3 w3 c3)), .unset] [])) _
    refine XS.lloadN X10.here hx rfl (hb hby at_98) rfl ?_
    show Steps p.tables e below (T10.setTop (mkF m 99 #[.val (.long q1), .second, .val (.int p2), .val (.int p3), .val (.int kk6), .val (.ref b4), .val (.int (F3 (FP.l2d (240000 : Int64)) FP.dconst1)), .val (.int (F3 w3 FP.dconst1)), .val (.int (1 : Int32)), .val (.int (F3 w3 c3)), .unset] [(.long q1)])) _
    refine X10.ldc2Long hx hown (mvT hZ (hw _ (List.mem_of_getElem? (i := 33) rfl))) (g := (mkF m 99 #[.val (.long q1), .second, .val (.int p2), .val (.int p3), .val (.int kk6), .val (.ref b4), .val (.int (F3 (FP.l2d (240000 : Int64)) FP.dconst1)), .val (.int (F3 w3 FP.dconst1)), .val (.int (1 : Int32)), .val (.int (F3 w3 c3)), .unset] [(.long q1)])) rfl (hb hby at_99) _ ?_
    show Steps p.tables e below (T10.setTop (mkF m 102 #[.val (.long q1), .second, .val (.int p2), .val (.int p3), .val (.int kk6), .val (.ref b4), .val (.int (F3 (FP.l2d (240000 : Int64)) FP.dconst1)), .val (.int (F3 w3 FP.dconst1)), .val (.int (1 : Int32)), .val (.int (F3 w3 c3)), .unset] [(.long (-1440000 : Int64)), (.long q1)])) _
    refine XS.lcmp X10.here hx rfl (hb hby at_102) rfl ?_
    show Steps p.tables e below (T10.setTop (mkF m 103 #[.val (.long q1), .second, .val (.int p2), .val (.int p3), .val (.int kk6), .val (.ref b4), .val (.int (F3 (FP.l2d (240000 : Int64)) FP.dconst1)), .val (.int (F3 w3 FP.dconst1)), .val (.int (1 : Int32)), .val (.int (F3 w3 c3)), .unset] [(.int (lcmpW q1 (-1440000 : Int64)))])) _
    refine XS.ifNo X10.here hx rfl (hb hby at_103) rfl ((if0 _ _).trans (tlt hc103).2.1) ?_
    show Steps p.tables e below (T10.setTop (mkF m 106 #[.val (.long q1), .second, .val (.int p2), .val (.int p3), .val (.int kk6), .val (.ref b4), .val (.int (F3 (FP.l2d (240000 : Int64)) FP.dconst1)), .val (.int (F3 w3 FP.dconst1)), .val (.int (1 : Int32)), .val (.int (F3 w3 c3)), .unset] [])) _
    refine XS.iload X10.here hx rfl (hb hby at_106) rfl ?_
    show Steps p.tables e below (T10.setTop (mkF m 108 #[.val (.long q1), .second, .val (.int p2), .val (.int p3), .val (.int kk6), .val (.ref b4), .val (.int (F3 (FP.l2d (240000 : Int64)) FP.dconst1)), .val (.int (F3 w3 FP.dconst1)), .val (.int (1 : Int32)), .val (.int (F3 w3 c3)), .unset] [(.int kk6)])) _
    refine XS.iconst X10.here hx rfl (hb hby at_108) ?_
    show Steps p.tables e below (T10.setTop (mkF m 109 #[.val (.long q1), .second, .val (.int p2), .val (.int p3), .val (.int kk6), .val (.ref b4), .val (.int (F3 (FP.l2d (240000 : Int64)) FP.dconst1)), .val (.int (F3 w3 FP.dconst1)), .val (.int (1 : Int32)), .val (.int (F3 w3 c3)), .unset] [(.int (5 : Int32)), (.int kk6)])) _
    refine XS.icmpYes X10.here hx rfl (pc0 := 109) (pc' := 116) rfl (hb hby at_109) rfl (flt hc109).2.1 (by decide) (by decide) ?_
    show Steps p.tables e below (T10.setTop (mkF m 116 #[.val (.long q1), .second, .val (.int p2), .val (.int p3), .val (.int kk6), .val (.ref b4), .val (.int (F3 (FP.l2d (240000 : Int64)) FP.dconst1)), .val (.int (F3 w3 FP.dconst1)), .val (.int (1 : Int32)), .val (.int (F3 w3 c3)), .unset] [])) _
    refine XS.iconst X10.here hx rfl (hb hby at_116) ?_
    show Steps p.tables e below (T10.setTop (mkF m 117 #[.val (.long q1), .second, .val (.int p2), .val (.int p3), .val (.int kk6), .val (.ref b4), .val (.int (F3 (FP.l2d (240000 : Int64)) FP.dconst1)), .val (.int (F3 w3 FP.dconst1)), .val (.int (1 : Int32)), .val (.int (F3 w3 c3)), .unset] [(.int (0 : Int32))])) _
    refine XS.istore X10.here hx rfl (hb hby at_117) rfl (l' := #[.val (.long q1), .second, .val (.int p2), .val (.int p3), .val (.int kk6), .val (.ref b4), .val (.int (F3 (FP.l2d (240000 : Int64)) FP.dconst1)), .val (.int (F3 w3 FP.dconst1)), .val (.int (1 : Int32)), .val (.int (F3 w3 c3)), .val (.int (0 : Int32))]) rfl ?_
    show Steps p.tables e below (T10.setTop (mkF m 119 #[.val (.long q1), .second, .val (.int p2), .val (.int p3), .val (.int kk6), .val (.ref b4), .val (.int (F3 (FP.l2d (240000 : Int64)) FP.dconst1)), .val (.int (F3 w3 FP.dconst1)), .val (.int (1 : Int32)), .val (.int (F3 w3 c3)), .val (.int (0 : Int32))] [])) _
    refine XS.iload X10.here hx rfl (hb hby at_119) rfl ?_
    show Steps p.tables e below (T10.setTop (mkF m 121 #[.val (.long q1), .second, .val (.int p2), .val (.int p3), .val (.int kk6), .val (.ref b4), .val (.int (F3 (FP.l2d (240000 : Int64)) FP.dconst1)), .val (.int (F3 w3 FP.dconst1)), .val (.int (1 : Int32)), .val (.int (F3 w3 c3)), .val (.int (0 : Int32))] [(.int (F3 (FP.l2d (240000 : Int64)) FP.dconst1))])) _
    refine XS.ifNo X10.here hx rfl (hb hby at_121) rfl ((if0 _ _).trans (teq hq1).2) ?_
    show Steps p.tables e below (T10.setTop (mkF m 124 #[.val (.long q1), .second, .val (.int p2), .val (.int p3), .val (.int kk6), .val (.ref b4), .val (.int (F3 (FP.l2d (240000 : Int64)) FP.dconst1)), .val (.int (F3 w3 FP.dconst1)), .val (.int (1 : Int32)), .val (.int (F3 w3 c3)), .val (.int (0 : Int32))] [])) _
    refine XS.iload X10.here hx rfl (hb hby at_124) rfl ?_
    show Steps p.tables e below (T10.setTop (mkF m 126 #[.val (.long q1), .second, .val (.int p2), .val (.int p3), .val (.int kk6), .val (.ref b4), .val (.int (F3 (FP.l2d (240000 : Int64)) FP.dconst1)), .val (.int (F3 w3 FP.dconst1)), .val (.int (1 : Int32)), .val (.int (F3 w3 c3)), .val (.int (0 : Int32))] [(.int (F3 w3 FP.dconst1))])) _
    refine XS.iload X10.here hx rfl (hb hby at_126) rfl ?_
    show Steps p.tables e below (T10.setTop (mkF m 128 #[.val (.long q1), .second, .val (.int p2), .val (.int p3), .val (.int kk6), .val (.ref b4), .val (.int (F3 (FP.l2d (240000 : Int64)) FP.dconst1)), .val (.int (F3 w3 FP.dconst1)), .val (.int (1 : Int32)), .val (.int (F3 w3 c3)), .val (.int (0 : Int32))] [(.int (1 : Int32)), (.int (F3 w3 FP.dconst1))])) _
    refine XS.icmpNo X10.here hx rfl (hb hby at_128) rfl (teq hq2).2 ?_
    show Steps p.tables e below (T10.setTop (mkF m 131 #[.val (.long q1), .second, .val (.int p2), .val (.int p3), .val (.int kk6), .val (.ref b4), .val (.int (F3 (FP.l2d (240000 : Int64)) FP.dconst1)), .val (.int (F3 w3 FP.dconst1)), .val (.int (1 : Int32)), .val (.int (F3 w3 c3)), .val (.int (0 : Int32))] [])) _
    refine XS.iload X10.here hx rfl (hb hby at_131) rfl ?_
    show Steps p.tables e below (T10.setTop (mkF m 133 #[.val (.long q1), .second, .val (.int p2), .val (.int p3), .val (.int kk6), .val (.ref b4), .val (.int (F3 (FP.l2d (240000 : Int64)) FP.dconst1)), .val (.int (F3 w3 FP.dconst1)), .val (.int (1 : Int32)), .val (.int (F3 w3 c3)), .val (.int (0 : Int32))] [(.int (F3 w3 c3))])) _
    refine XS.iload X10.here hx rfl (hb hby at_133) rfl ?_
    show Steps p.tables e below (T10.setTop (mkF m 135 #[.val (.long q1), .second, .val (.int p2), .val (.int p3), .val (.int kk6), .val (.ref b4), .val (.int (F3 (FP.l2d (240000 : Int64)) FP.dconst1)), .val (.int (F3 w3 FP.dconst1)), .val (.int (1 : Int32)), .val (.int (F3 w3 c3)), .val (.int (0 : Int32))] [(.int (0 : Int32)), (.int (F3 w3 c3))])) _
    refine XS.icmpNo X10.here hx rfl (hb hby at_135) rfl (teq hq3).2 ?_
    show Steps p.tables e below (T10.setTop (mkF m 138 #[.val (.long q1), .second, .val (.int p2), .val (.int p3), .val (.int kk6), .val (.ref b4), .val (.int (F3 (FP.l2d (240000 : Int64)) FP.dconst1)), .val (.int (F3 w3 FP.dconst1)), .val (.int (1 : Int32)), .val (.int (F3 w3 c3)), .val (.int (0 : Int32))] [])) _
    refine XS.iconst X10.here hx rfl (hb hby at_138) ?_
    show Steps p.tables e below (T10.setTop (mkF m 139 #[.val (.long q1), .second, .val (.int p2), .val (.int p3), .val (.int kk6), .val (.ref b4), .val (.int (F3 (FP.l2d (240000 : Int64)) FP.dconst1)), .val (.int (F3 w3 FP.dconst1)), .val (.int (1 : Int32)), .val (.int (F3 w3 c3)), .val (.int (0 : Int32))] [(.int (1 : Int32))])) _
    refine XS.goto X10.here hx rfl (pc0 := 139) (pc' := 143) rfl (hb hby at_139) (by decide) (by decide) ?_
    show Steps p.tables e below (T10.setTop (mkF m 143 #[.val (.long q1), .second, .val (.int p2), .val (.int p3), .val (.int kk6), .val (.ref b4), .val (.int (F3 (FP.l2d (240000 : Int64)) FP.dconst1)), .val (.int (F3 w3 FP.dconst1)), .val (.int (1 : Int32)), .val (.int (F3 w3 c3)), .val (.int (0 : Int32))] [(.int (1 : Int32))])) _
    exact retN X10 hx (t := .boolean) Bd.returns (by simp) (hb hby at_143) hr
  · show QL n0 _ T10.heap _
    exact ⟨rfl, N10⟩
set_option maxRecDepth 65536 in
set_option maxHeartbeats 40000000 in
theorem rm0_fttfff (l : Launch) (Z : State) (a0 : Array Value) (hw : ∀ d ∈ tables_1, d.before a0 Z = true) (ws : List Jvm.Cond) (q1 : Int64) (p2 : Int32) (p3 : Int32) (kk6 : Int32) (w1 : UInt64) (w2 : UInt64) (w3 : UInt64) (c1 : UInt64) (c2 : UInt64) (c3 : UInt64) (h0 : Heap) (n0 : Nat) (Z0 : n0 ≤ h0.size) (hk6 : ((1 : Int32) + (p2 &&& (1073741823 : Int32))) = kk6) (hw1 : (FP.dsub (FP.l2d (F5 q1 (240000 : Int64))) (FP.l2d (240000 : Int64))) = w1) (hn1 : Jvm.Free.Fl.NoNaN64 (FP.dsub (FP.l2d (F5 q1 (240000 : Int64))) (FP.l2d (240000 : Int64)))) (hw2 : (FP.ddiv w1 (4620693217682128896 : UInt64)) = w2) (hn2 : Jvm.Free.Fl.NoNaN64 (FP.ddiv w1 (4620693217682128896 : UInt64))) (hw3 : (FP.dadd (FP.l2d (240000 : Int64)) w2) = w3) (hn3 : Jvm.Free.Fl.NoNaN64 (FP.dadd (FP.l2d (240000 : Int64)) w2)) (hx1 : (FP.dsub (FP.i2d kk6) FP.dconst1) = c1) (hm1 : Jvm.Free.Fl.NoNaN64 (FP.dsub (FP.i2d kk6) FP.dconst1)) (hx2 : (FP.ddiv c1 (4620693217682128896 : UInt64)) = c2) (hm2 : Jvm.Free.Fl.NoNaN64 (FP.ddiv c1 (4620693217682128896 : UInt64))) (hx3 : (FP.dadd FP.dconst1 c2) = c3) (hm3 : Jvm.Free.Fl.NoNaN64 (FP.dadd FP.dconst1 c2)) (S0 : Sta Z h0 "com/example/tanager/tanager/Polling" "LONGEST_WAIT_COUNTED" "J" (.long (240000 : Int64))) (S0' : Sta Z h0 "com/example/tanager/tanager/Polling" "NANOS" "J" (.long (30000 : Int64))) (hc27 : ¬ ((p3 &&& (1 : Int32)) = (0 : Int32))) (hc48 : ¬ ((lcmpW q1 (-1440000 : Int64)) < (0 : Int32))) (hc103 : ¬ ((lcmpW q1 (-1440000 : Int64)) < (0 : Int32))) (hq1 : (F3 (FP.l2d (240000 : Int64)) FP.dconst1) = (0 : Int32)) (hq2 : (F3 w3 FP.dconst1) = (0 : Int32)) (hq3 : (F3 w3 c3) = (0 : Int32)) :
    MetFree l x (head1 (Jvm.Cond.code x code maxLocals ret :: ws) room_1) (fun a U => a = #[(.long q1), (.int p2), (.int p3)] ∧ Z.Warmed39 U.vm ∧ U.heap = h0) (fun _ _ _ _ _ => True) (fun _ U o U' => ∃ v L, o = .returned v ∧ QL n0 v U'.heap L ∧ FrameEnd U o U' L room_1.cells room_1.slots) := by
  refine MetFree.of_bodySF (plainFor_of_name pn_0) hisR ?_
  intro p e s m args below meth c s₁ Bd hml0 hP hK
  obtain ⟨rfl, hZ, hh⟩ := hP
  have hx := Bd.exec
  have hby := Bd.bytes
  have hml : c.maxLocals = 11 := hml0
  have hown : s.vm.findClass "com/example/tanager/tanager/PollingWorthItPinLaw" = some m.cls := findClass_of_methodNamed Bd.named
  have hnm := (name_of_methodNamed Bd.named Bd.method).1
  have X0 : Stand p l e room_1 s m #[(.long q1), (.int p2), (.int p3)] below meth c s₁ [] 0 0 := Stand.of_body Bd
  have e0 : s₁.heap = h0 := by rw [← hh, Bd.state]; rfl
  have N0 := Fr.nil n0
  have pre0 : ∀ t, Steps p.tables e below (s₁.setTop (mkF m 0 #[.val (.long q1), .second, .val (.int p2), .val (.int p3), .unset, .unset, .unset, .unset, .unset, .unset, .unset] [])) t → Steps p.tables e below (s₁.setTop (entryFrame m #[(.long q1), (.int p2), (.int p3)] maxLocals)) t := fun t k => castTop (ef_0 m q1 p2 p3) k
  obtain ⟨T4, h4, X4, e4, E4, A4, D4, -, st4⟩ := newO X0 hx hZ hown (hw _ (List.mem_of_getElem? (i := 1) rfl)) (hw _ (List.mem_of_getElem? (i := 2) rfl)) (hw _ (List.mem_of_getElem? (i := 3) rfl)) e0 (g := (mkF m 8 #[.val (.long q1), .second, .val (.int p2), .val (.int p3), .val (.int kk6), .unset, .unset, .unset, .unset, .unset, .unset] [])) rfl (hb hby at_8) (by decide) (by decide)
  obtain ⟨b4, g4⟩ : ∃ z, z = h0.size := ⟨_, rfl⟩
  rw [← g4] at A4 D4 st4
  have F_recentWaitNanos_b4 : Fld Z h4 b4 "com/example/tanager/tanager/Polling" "recentWaitNanos" "D" (.double (0 : UInt64)) := D4 (Or.inl (hw _ (List.mem_of_getElem? (i := 13) rfl))) (ty := .double) (by decide)
  have F_recentCalls_b4 : Fld Z h4 b4 "com/example/tanager/tanager/Polling" "recentCalls" "D" (.double (0 : UInt64)) := D4 (Or.inl (hw _ (List.mem_of_getElem? (i := 15) rfl))) (ty := .double) (by decide)
  have E_b4 := A4
  have g_b4 : n0 ≤ b4 := Nat.le_trans Z0 (Nat.le_of_eq g4.symm)
  have sz_b4 : h0.size ≤ b4 := (Nat.le_trans (Keep.refl h0 []).1 (Nat.le_of_eq g4.symm))
  have K4 : Keep h0 h4 [] := (Keep.refl h0 []).ext E4
  obtain ⟨_, _, ⟨T5, L5, k5, n5⟩, -, X5, ⟨Lc5, hQ5, l5, y5, z5⟩, st5⟩ := X4.specialBack hx (y := (⟨"com/example/tanager/tanager/Polling", "<init>", "()V"⟩ : MethodName)) rfl hown (mvT hZ (hw _ (List.mem_of_getElem? (i := 4) rfl))) (mvT hZ (hw _ (List.mem_of_getElem? (i := 5) rfl))) (mvT hZ (hw _ (List.mem_of_getElem? (i := 6) rfl))) (by decide) (backOf (W := 1) (rm1 l Z a0 hw [] b4 (240000 : Int64) _ _ h4 n0 (Nat.le_trans Z0 E4.1) (S0.ext E4) E_b4 F_recentWaitNanos_b4 g_b4 F_recentCalls_b4) hZ (hw _ (List.mem_of_getElem? (i := 6) rfl)) (hw _ (List.mem_of_getElem? (i := 3) rfl)) (by decide) (by decide)) (g := (mkF m 12 #[.val (.long q1), .second, .val (.int p2), .val (.int p3), .val (.int kk6), .unset, .unset, .unset, .unset, .unset, .unset] [(.ref b4), (.ref b4)])) rfl (by rw [hml]; rfl) (Steps.refl _) (a := b4) (argsL := []) (rest := [(.ref b4)]) (lenOf pd_0_0 rfl) rfl (by show 2 * 0 + _ ≤ _; exact Nat.le_of_eq rfl) (hb hby at_12) (fun _ _ => ⟨rfl, e4, (by decide : 1 + 0 ≤ _), (by decide : 2 + 0 ≤ _)⟩)
  dsimp only [Pt.U, Pt.locs, Pt.cells, Pt.slots] at X5 l5 y5 z5 st5 hQ5
  subst l5 y5 z5
  obtain ⟨rfl, N5q, K5c, E5, Fw5, Fc5⟩ := hQ5
  have Z5 : n0 ≤ T5.heap.size := Nat.le_trans (Nat.le_trans Z0 E4.1) K5c.1
  have S5 := own_sta_keep (S0.ext E4) K5c E_b4
  have S5' := own_sta_keep (S0'.ext E4) K5c E_b4
  have N5 := Fr.app N0 N5q
  obtain ⟨cq6, kq6, q6a, q6b, q6c⟩ := isOf hZ rfl (E_b4.keep K5c)
  obtain ⟨_, _, ⟨T6, L6, k6, n6⟩, -, X6, ⟨Lc6, hQ6, l6, y6, z6⟩, st6⟩ := X5.virtualBack hx (y := (⟨"com/example/tanager/tanager/Polling", "worthIt", "()Z"⟩ : MethodName)) (z := (⟨"com/example/tanager/tanager/Polling", "worthIt", "()Z"⟩ : MethodName)) hown (mvT hZ (hw _ (List.mem_of_getElem? (i := 16) rfl))) (mvT hZ (hw _ (List.mem_of_getElem? (i := 17) rfl))) (notFace_of_selects (args := #[]) (mvT hZ (hw _ (List.mem_of_getElem? (i := 19) rfl)))) (mvT hZ (hw _ (List.mem_of_getElem? (i := 19) rfl))) (mvT hZ (hw _ (List.mem_of_getElem? (i := 18) rfl))) (by decide) (backOf (W := 0) (rm3 l Z a0 hw [] b4 (FP.l2d (240000 : Int64)) FP.dconst1 T5.heap n0 Z5 Fw5 S5' Fc5) hZ (hw _ (List.mem_of_getElem? (i := 20) rfl)) (hw _ (List.mem_of_getElem? (i := 3) rfl)) (by decide) (by decide)) q6a q6c (g := (mkF m 19 #[.val (.long q1), .second, .val (.int p2), .val (.int p3), .val (.int kk6), .val (.ref b4), .unset, .unset, .unset, .unset, .unset] [(.ref b4)])) rfl (by rw [hml]; rfl) (Steps.refl _) (argsL := []) (rest := []) (lenOf pd_0_1 rfl) rfl (by show 2 * 0 + _ ≤ _; exact Nat.le_of_eq rfl) (hb hby at_19) (fun _ _ => ⟨rfl, rfl, (by decide : 1 + 0 ≤ _), (by decide : 2 + 0 ≤ _)⟩)
  dsimp only [Pt.U, Pt.locs, Pt.cells, Pt.slots] at X6 l6 y6 z6 st6 hQ6
  subst l6 y6 z6
  obtain ⟨rfl, N6q, eh6⟩ := hQ6
  have K6c : Keep T5.heap T6.heap [] := by rw [eh6]; exact Keep.refl _ _
  have Z6 : n0 ≤ T6.heap.size := by rw [eh6]; exact Z5
  have E6 := E5.keep K6c
  have Fw6 := Fw5.keep K6c (by simp)
  have Fc6 := Fc5.keep K6c (by simp)
  have S6 : Sta Z T6.heap "com/example/tanager/tanager/Polling" "LONGEST_WAIT_COUNTED" "J" (.long (240000 : Int64)) := by rw [eh6]; exact S5
  have S6' : Sta Z T6.heap "com/example/tanager/tanager/Polling" "NANOS" "J" (.long (30000 : Int64)) := by rw [eh6]; exact S5'
  have N6 := Fr.app N5 N6q
  obtain ⟨cq7, kq7, q7a, q7b, q7c⟩ := isOf hZ rfl ((E_b4.keep K5c).keep K6c)
  obtain ⟨_, _, ⟨T7, L7, k7, n7⟩, -, X7, ⟨Lc7, hQ7, l7, y7, z7⟩, st7⟩ := X6.virtualBack hx (y := (⟨"com/example/tanager/tanager/Polling", "waited", "(J)V"⟩ : MethodName)) (z := (⟨"com/example/tanager/tanager/Polling", "waited", "(J)V"⟩ : MethodName)) hown (mvT hZ (hw _ (List.mem_of_getElem? (i := 23) rfl))) (mvT hZ (hw _ (List.mem_of_getElem? (i := 24) rfl))) (notFace_of_selects (args := #[]) (mvT hZ (hw _ (List.mem_of_getElem? (i := 26) rfl)))) (mvT hZ (hw _ (List.mem_of_getElem? (i := 26) rfl))) (mvT hZ (hw _ (List.mem_of_getElem? (i := 25) rfl))) (by decide) (backOf (W := 0) (rm4 l Z a0 hw [] b4 q1 (FP.l2d (240000 : Int64)) w1 w2 w3 FP.dconst1 T6.heap n0 Z6 Fw6 S6 E6 Fc6 g_b4 hw1 hn1 hw2 hn2 hw3 hn3) hZ (hw _ (List.mem_of_getElem? (i := 27) rfl)) (hw _ (List.mem_of_getElem? (i := 3) rfl)) (by decide) (by decide)) q7a q7c (g := (mkF m 33 #[.val (.long q1), .second, .val (.int p2), .val (.int p3), .val (.int kk6), .val (.ref b4), .val (.int (F3 (FP.l2d (240000 : Int64)) FP.dconst1)), .unset, .unset, .unset, .unset] [(.long q1), (.ref b4)])) rfl (by rw [hml]; rfl) (Steps.refl _) (argsL := [(.long q1)]) (rest := []) (lenOf pd_0_2 rfl) rfl (by show 2 * 0 + _ ≤ _; exact Nat.le_of_eq rfl) (hb hby at_33) (fun _ _ => ⟨rfl, rfl, (by decide : 1 + 0 ≤ _), (by decide : 2 + 0 ≤ _)⟩)
  dsimp only [Pt.U, Pt.locs, Pt.cells, Pt.slots] at X7 l7 y7 z7 st7 hQ7
  subst l7 y7 z7
  obtain ⟨rfl, N7q, K7c, E7, Fw7, Fc7⟩ := hQ7
  have Z7 : n0 ≤ T7.heap.size := Nat.le_trans Z6 K7c.1
  have S7 := own_sta_keep S6 K7c E6
  have S7' := own_sta_keep S6' K7c E6
  have N7 := Fr.app N6 N7q
  obtain ⟨cq8, kq8, q8a, q8b, q8c⟩ := isOf hZ rfl (((E_b4.keep K5c).keep K6c).keep K7c)
  obtain ⟨_, _, ⟨T8, L8, k8, n8⟩, -, X8, ⟨Lc8, hQ8, l8, y8, z8⟩, st8⟩ := X7.virtualBack hx (y := (⟨"com/example/tanager/tanager/Polling", "worthIt", "()Z"⟩ : MethodName)) (z := (⟨"com/example/tanager/tanager/Polling", "worthIt", "()Z"⟩ : MethodName)) hown (mvT hZ (hw _ (List.mem_of_getElem? (i := 16) rfl))) (mvT hZ (hw _ (List.mem_of_getElem? (i := 17) rfl))) (notFace_of_selects (args := #[]) (mvT hZ (hw _ (List.mem_of_getElem? (i := 19) rfl)))) (mvT hZ (hw _ (List.mem_of_getElem? (i := 19) rfl))) (mvT hZ (hw _ (List.mem_of_getElem? (i := 18) rfl))) (by decide) (backOf (W := 0) (rm3 l Z a0 hw [] b4 w3 FP.dconst1 T7.heap n0 Z7 Fw7 S7' Fc7) hZ (hw _ (List.mem_of_getElem? (i := 20) rfl)) (hw _ (List.mem_of_getElem? (i := 3) rfl)) (by decide) (by decide)) q8a q8c (g := (mkF m 38 #[.val (.long q1), .second, .val (.int p2), .val (.int p3), .val (.int kk6), .val (.ref b4), .val (.int (F3 (FP.l2d (240000 : Int64)) FP.dconst1)), .unset, .unset, .unset, .unset] [(.ref b4)])) rfl (by rw [hml]; rfl) (Steps.refl _) (argsL := []) (rest := []) (lenOf pd_0_1 rfl) rfl (by show 2 * 0 + _ ≤ _; exact Nat.le_of_eq rfl) (hb hby at_38) (fun _ _ => ⟨rfl, rfl, (by decide : 1 + 0 ≤ _), (by decide : 2 + 0 ≤ _)⟩)
  dsimp only [Pt.U, Pt.locs, Pt.cells, Pt.slots] at X8 l8 y8 z8 st8 hQ8
  subst l8 y8 z8
  obtain ⟨rfl, N8q, eh8⟩ := hQ8
  have K8c : Keep T7.heap T8.heap [] := by rw [eh8]; exact Keep.refl _ _
  have Z8 : n0 ≤ T8.heap.size := by rw [eh8]; exact Z7
  have E8 := E7.keep K8c
  have Fw8 := Fw7.keep K8c (by simp)
  have Fc8 := Fc7.keep K8c (by simp)
  have S8 : Sta Z T8.heap "com/example/tanager/tanager/Polling" "LONGEST_WAIT_COUNTED" "J" (.long (240000 : Int64)) := by rw [eh8]; exact S7
  have S8' : Sta Z T8.heap "com/example/tanager/tanager/Polling" "NANOS" "J" (.long (30000 : Int64)) := by rw [eh8]; exact S7'
  have N8 := Fr.app N7 N8q
  obtain ⟨cq9, kq9, q9a, q9b, q9c⟩ := isOf hZ rfl ((((E_b4.keep K5c).keep K6c).keep K7c).keep K8c)
  obtain ⟨_, _, ⟨T9, L9, k9, n9⟩, -, X9, ⟨Lc9, hQ9, l9, y9, z9⟩, st9⟩ := X8.virtualBack hx (y := (⟨"com/example/tanager/tanager/Polling", "counted", "(I)V"⟩ : MethodName)) (z := (⟨"com/example/tanager/tanager/Polling", "counted", "(I)V"⟩ : MethodName)) hown (mvT hZ (hw _ (List.mem_of_getElem? (i := 34) rfl))) (mvT hZ (hw _ (List.mem_of_getElem? (i := 35) rfl))) (notFace_of_selects (args := #[]) (mvT hZ (hw _ (List.mem_of_getElem? (i := 37) rfl)))) (mvT hZ (hw _ (List.mem_of_getElem? (i := 37) rfl))) (mvT hZ (hw _ (List.mem_of_getElem? (i := 36) rfl))) (by decide) (backOf (W := 0) (rm6 l Z a0 hw [] b4 kk6 FP.dconst1 c1 c2 c3 w3 T8.heap n0 Z8 Fc8 E8 Fw8 g_b4 hx1 hm1 hx2 hm2 hx3 hm3) hZ (hw _ (List.mem_of_getElem? (i := 38) rfl)) (hw _ (List.mem_of_getElem? (i := 3) rfl)) (by decide) (by decide)) q9a q9c (g := (mkF m 62 #[.val (.long q1), .second, .val (.int p2), .val (.int p3), .val (.int kk6), .val (.ref b4), .val (.int (F3 (FP.l2d (240000 : Int64)) FP.dconst1)), .val (.int (F3 w3 FP.dconst1)), .val (.int (0 : Int32)), .unset, .unset] [(.int kk6), (.ref b4)])) rfl (by rw [hml]; rfl) (Steps.refl _) (argsL := [(.int kk6)]) (rest := []) (lenOf pd_0_4 rfl) rfl (by show 2 * 0 + _ ≤ _; exact Nat.le_of_eq rfl) (hb hby at_62) (fun _ _ => ⟨rfl, rfl, (by decide : 1 + 0 ≤ _), (by decide : 2 + 0 ≤ _)⟩)
  dsimp only [Pt.U, Pt.locs, Pt.cells, Pt.slots] at X9 l9 y9 z9 st9 hQ9
  subst l9 y9 z9
  obtain ⟨rfl, N9q, K9c, E9, Fw9, Fc9⟩ := hQ9
  have Z9 : n0 ≤ T9.heap.size := Nat.le_trans Z8 K9c.1
  have S9 := own_sta_keep S8 K9c E8
  have S9' := own_sta_keep S8' K9c E8
  have N9 := Fr.app N8 N9q
  obtain ⟨cq10, kq10, q10a, q10b, q10c⟩ := isOf hZ rfl (((((E_b4.keep K5c).keep K6c).keep K7c).keep K8c).keep K9c)
  obtain ⟨_, _, ⟨T10, L10, k10, n10⟩, -, X10, ⟨Lc10, hQ10, l10, y10, z10⟩, st10⟩ := X9.virtualBack hx (y := (⟨"com/example/tanager/tanager/Polling", "worthIt", "()Z"⟩ : MethodName)) (z := (⟨"com/example/tanager/tanager/Polling", "worthIt", "()Z"⟩ : MethodName)) hown (mvT hZ (hw _ (List.mem_of_getElem? (i := 16) rfl))) (mvT hZ (hw _ (List.mem_of_getElem? (i := 17) rfl))) (notFace_of_selects (args := #[]) (mvT hZ (hw _ (List.mem_of_getElem? (i := 19) rfl)))) (mvT hZ (hw _ (List.mem_of_getElem? (i := 19) rfl))) (mvT hZ (hw _ (List.mem_of_getElem? (i := 18) rfl))) (by decide) (backOf (W := 0) (rm3 l Z a0 hw [] b4 w3 c3 T9.heap n0 Z9 Fw9 S9' Fc9) hZ (hw _ (List.mem_of_getElem? (i := 20) rfl)) (hw _ (List.mem_of_getElem? (i := 3) rfl)) (by decide) (by decide)) q10a q10c (g := (mkF m 93 #[.val (.long q1), .second, .val (.int p2), .val (.int p3), .val (.int kk6), .val (.ref b4), .val (.int (F3 (FP.l2d (240000 : Int64)) FP.dconst1)), .val (.int (F3 w3 FP.dconst1)), .val (.int (0 : Int32)), .unset, .unset] [(.ref b4)])) rfl (by rw [hml]; rfl) (Steps.refl _) (argsL := []) (rest := []) (lenOf pd_0_1 rfl) rfl (by show 2 * 0 + _ ≤ _; exact Nat.le_of_eq rfl) (hb hby at_93) (fun _ _ => ⟨rfl, rfl, (by decide : 1 + 0 ≤ _), (by decide : 2 + 0 ≤ _)⟩)
  dsimp only [Pt.U, Pt.locs, Pt.cells, Pt.slots] at X10 l10 y10 z10 st10 hQ10
  subst l10 y10 z10
  obtain ⟨rfl, N10q, eh10⟩ := hQ10
  have N10 := Fr.app N9 N10q
  obtain ⟨fs, hr, hrun, hended, hW, hsame⟩ := X10.leave (v := some (.int (1 : Int32))) (fun h => by rw [Bd.returns] at h; cases h)
  refine ⟨_, _, pre0 _ ?_, hrun, hended, _, _, rfl, ?_, ⟨_, rfl⟩, hW, hsame.mono (by decide) (by decide)⟩
  · show Steps p.tables e below (s₁.setTop (mkF m 0 #[.val (.long q1), .second, .val (.int p2), .val (.int p3), .unset, .unset, .unset, .unset, .unset, .unset, .unset] [])) _
    refine XS.iconst X0.here hx rfl (hb hby at_0) ?_
    show Steps p.tables e below (s₁.setTop (mkF m 1 #[.val (.long q1), .second, .val (.int p2), .val (.int p3), .unset, .unset, .unset, .unset, .unset, .unset, .unset] [(.int (1 : Int32))])) _
    refine XS.iloadN X0.here hx rfl (hb hby at_1) rfl ?_
    show Steps p.tables e below (s₁.setTop (mkF m 2 #[.val (.long q1), .second, .val (.int p2), .val (.int p3), .unset, .unset, .unset, .unset, .unset, .unset, .unset] [(.int p2), (.int (1 : Int32))])) _
    refine X0.ldcInt hx hown (mvT hZ (hw _ (List.mem_of_getElem? (i := 0) rfl))) (g := (mkF m 2 #[.val (.long q1), .second, .val (.int p2), .val (.int p3), .unset, .unset, .unset, .unset, .unset, .unset, .unset] [(.int p2), (.int (1 : Int32))])) rfl (hb hby at_2) _ ?_
    show Steps p.tables e below (s₁.setTop (mkF m 4 #[.val (.long q1), .second, .val (.int p2), .val (.int p3), .unset, .unset, .unset, .unset, .unset, .unset, .unset] [(.int (1073741823 : Int32)), (.int p2), (.int (1 : Int32))])) _
    refine XS.iand X0.here hx rfl (hb hby at_4) rfl ?_
    show Steps p.tables e below (s₁.setTop (mkF m 5 #[.val (.long q1), .second, .val (.int p2), .val (.int p3), .unset, .unset, .unset, .unset, .unset, .unset, .unset] [(.int (p2 &&& (1073741823 : Int32))), (.int (1 : Int32))])) _
    refine XS.iadd X0.here hx rfl (hb hby at_5) rfl ?_
    show Steps p.tables e below (s₁.setTop (mkF m 6 #[.val (.long q1), .second, .val (.int p2), .val (.int p3), .unset, .unset, .unset, .unset, .unset, .unset, .unset] [(.int ((1 : Int32) + (p2 &&& (1073741823 : Int32))))])) _
    refine XS.istore X0.here hx rfl (hb hby at_6) rfl (l' := #[.val (.long q1), .second, .val (.int p2), .val (.int p3), .val (.int ((1 : Int32) + (p2 &&& (1073741823 : Int32)))), .unset, .unset, .unset, .unset, .unset, .unset]) rfl ?_
    show Steps p.tables e below (s₁.setTop (mkF m 8 #[.val (.long q1), .second, .val (.int p2), .val (.int p3), .val (.int ((1 : Int32) + (p2 &&& (1073741823 : Int32)))), .unset, .unset, .unset, .unset, .unset, .unset] [])) _
    rw [hk6]
    show Steps p.tables e below (s₁.setTop (mkF m 8 #[.val (.long q1), .second, .val (.int p2), .val (.int p3), .val (.int kk6), .unset, .unset, .unset, .unset, .unset, .unset] [])) _
    refine st4 _ ?_
    show Steps p.tables e below (T4.setTop (mkF m 11 #[.val (.long q1), .second, .val (.int p2), .val (.int p3), .val (.int kk6), .unset, .unset, .unset, .unset, .unset, .unset] [(.ref b4)])) _
    refine XS.dup X4.here hx rfl (hb hby at_11) rfl rfl ?_
    show Steps p.tables e below (T4.setTop (mkF m 12 #[.val (.long q1), .second, .val (.int p2), .val (.int p3), .val (.int kk6), .unset, .unset, .unset, .unset, .unset, .unset] [(.ref b4), (.ref b4)])) _
    refine st5.trans ?_
    show Steps p.tables e below (T5.setTop (mkF m 15 #[.val (.long q1), .second, .val (.int p2), .val (.int p3), .val (.int kk6), .unset, .unset, .unset, .unset, .unset, .unset] [(.ref b4)])) _
    refine XS.astore X5.here hx rfl (hb hby at_15) rfl rfl (l' := #[.val (.long q1), .second, .val (.int p2), .val (.int p3), .val (.int kk6), .val (.ref b4), .unset, .unset, .unset, .unset, .unset]) rfl ?_
    show Steps p.tables e below (T5.setTop (mkF m 17 #[.val (.long q1), .second, .val (.int p2), .val (.int p3), .val (.int kk6), .val (.ref b4), .unset, .unset, .unset, .unset, .unset] [])) _
    refine XS.aload X5.here hx rfl (hb hby at_17) rfl rfl ?_
    show Steps p.tables e below (T5.setTop (mkF m 19 #[.val (.long q1), .second, .val (.int p2), .val (.int p3), .val (.int kk6), .val (.ref b4), .unset, .unset, .unset, .unset, .unset] [(.ref b4)])) _
    refine st6.trans ?_
    show Steps p.tables e below (T6.setTop (mkF m 22 #[.val (.long q1), .second, .val (.int p2), .val (.int p3), .val (.int kk6), .val (.ref b4), .unset, .unset, .unset, .unset, .unset] [(.int (F3 (FP.l2d (240000 : Int64)) FP.dconst1))])) _
    refine XS.istore X6.here hx rfl (hb hby at_22) rfl (l' := #[.val (.long q1), .second, .val (.int p2), .val (.int p3), .val (.int kk6), .val (.ref b4), .val (.int (F3 (FP.l2d (240000 : Int64)) FP.dconst1)), .unset, .unset, .unset, .unset]) rfl ?_
    show Steps p.tables e below (T6.setTop (mkF m 24 #[.val (.long q1), .second, .val (.int p2), .val (.int p3), .val (.int kk6), .val (.ref b4), .val (.int (F3 (FP.l2d (240000 : Int64)) FP.dconst1)), .unset, .unset, .unset, .unset] [])) _
    refine XS.iloadN X6.here hx rfl (hb hby at_24) rfl ?_
    show Steps p.tables e below (T6.setTop (mkF m 25 #[.val (.long q1), .second, .val (.int p2), .val (.int p3), .val (.int kk6), .val (.ref b4), .val (.int (F3 (FP.l2d (240000 : Int64)) FP.dconst1)), .unset, .unset, .unset, .unset] [(.int p3)])) _
    refine XS.iconst X6.here hx rfl (hb hby at_25) ?_
    show Steps p.tables e below (T6.setTop (mkF m 26 #[.val (.long q1), .second, .val (.int p2), .val (.int p3), .val (.int kk6), .val (.ref b4), .val (.int (F3 (FP.l2d (240000 : Int64)) FP.dconst1)), .unset, .unset, .unset, .unset] [(.int (1 : Int32)), (.int p3)])) _
    refine XS.iand X6.here hx rfl (hb hby at_26) rfl ?_
    show Steps p.tables e below (T6.setTop (mkF m 27 #[.val (.long q1), .second, .val (.int p2), .val (.int p3), .val (.int kk6), .val (.ref b4), .val (.int (F3 (FP.l2d (240000 : Int64)) FP.dconst1)), .unset, .unset, .unset, .unset] [(.int (p3 &&& (1 : Int32)))])) _
    refine XS.ifNo X6.here hx rfl (hb hby at_27) rfl ((if0 _ _).trans (feq hc27).1) ?_
    show Steps p.tables e below (T6.setTop (mkF m 30 #[.val (.long q1), .second, .val (.int p2), .val (.int p3), .val (.int kk6), .val (.ref b4), .val (.int (F3 (FP.l2d (240000 : Int64)) FP.dconst1)), .unset, .unset, .unset, .unset] [])) _
    refine XS.aload X6.here hx rfl (hb hby at_30) rfl rfl ?_
    show Steps p.tables e below (T6.setTop (mkF m 32 #[.val (.long q1), .second, .val (.int p2), .val (.int p3), .val (.int kk6), .val (.ref b4), .val (.int (F3 (FP.l2d (240000 : Int64)) FP.dconst1)), .unset, .unset, .unset, .unset] [(.ref b4)])) _
    refine XS.lloadN X6.here hx rfl (hb hby at_32) rfl ?_
    show Steps p.tables e below (T6.setTop (mkF m 33 #[.val (.long q1), .second, .val (.int p2), .val (.int p3), .val (.int kk6), .val (.ref b4), .val (.int (F3 (FP.l2d (240000 : Int64)) FP.dconst1)), .unset, .unset, .unset, .unset] [(.long q1), (.ref b4)])) _
    refine st7.trans ?_
    show Steps p.tables e below (T7.setTop (mkF m 36 #[.val (.long q1), .second, .val (.int p2), .val (.int p3), .val (.int kk6), .val (.ref b4), .val (.int (F3 (FP.l2d (240000 : Int64)) FP.dconst1)), .unset, .unset, .unset, .unset] [])) _
    refine XS.aload X7.here hx rfl (hb hby at_36) rfl rfl ?_
    show Steps p.tables e below (T7.setTop (mkF m 38 #[.val (.long q1), .second, .val (.int p2), .val (.int p3), .val (.int kk6), .val (.ref b4), .val (.int (F3 (FP.l2d (240000 : Int64)) FP.dconst1)), .unset, .unset, .unset, .unset] [(.ref b4)])) _
    refine st8.trans ?_
    show Steps p.tables e below (T8.setTop (mkF m 41 #[.val (.long q1), .second, .val (.int p2), .val (.int p3), .val (.int kk6), .val (.ref b4), .val (.int (F3 (FP.l2d (240000 : Int64)) FP.dconst1)), .unset, .unset, .unset, .unset] [(.int (F3 w3 FP.dconst1))])) _
    refine XS.istore X8.here hx rfl (hb hby at_41) rfl (l' := #[.val (.long q1), .second, .val (.int p2), .val (.int p3), .val (.int kk6), .val (.ref b4), .val (.int (F3 (FP.l2d (240000 : Int64)) FP.dconst1)), .val (.int (F3 w3 FP.dconst1)), .unset, .unset, .unset]) rfl ?_
    show Steps p.tables e below (T8.setTop (mkF m 43 #[.val (.long q1), .second, .val (.int p2), .val (.int p3), .val (.int kk6), .val (.ref b4), .val (.int (F3 (FP.l2d (240000 : Int64)) FP.dconst1)), .val (.int (F3 w3 FP.dconst1)), .unset, .unset, .unset] [])) _
    refine XS.lloadN X8.here hx rfl (hb hby at_43) rfl ?_
    show Steps p.tables e below (T8.setTop (mkF m 44 #[.val (.long q1), .second, .val (.int p2), .val (.int p3), .val (.int kk6), .val (.ref b4), .val (.int (F3 (FP.l2d (240000 : Int64)) FP.dconst1)), .val (.int (F3 w3 FP.dconst1)), .unset, .unset, .unset] [(.long q1)])) _
    refine X8.ldc2Long hx hown (mvT hZ (hw _ (List.mem_of_getElem? (i := 33) rfl))) (g := (mkF m 44 #[.val (.long q1), .second, .val (.int p2), .val (.int p3), .val (.int kk6), .val (.ref b4), .val (.int (F3 (FP.l2d (240000 : Int64)) FP.dconst1)), .val (.int (F3 w3 FP.dconst1)), .unset, .unset, .unset] [(.long q1)])) rfl (hb hby at_44) _ ?_
    show Steps p.tables e below (T8.setTop (mkF m 47 #[.val (.long q1), .second, .val (.int p2), .val (.int p3), .val (.int kk6), .val (.ref b4), .val (.int (F3 (FP.l2d (240000 : Int64)) FP.dconst1)), .val (.int (F3 w3 FP.dconst1)), .unset, .unset, .unset] [(.long (-1440000 : Int64)), (.long q1)])) _
    refine XS.lcmp X8.here hx rfl (hb hby at_47) rfl ?_
    show Steps p.tables e below (T8.setTop (mkF m 48 #[.val (.long q1), .second, .val (.int p2), .val (.int p3), .val (.int kk6), .val (.ref b4), .val (.int (F3 (FP.l2d (240000 : Int64)) FP.dconst1)), .val (.int (F3 w3 FP.dconst1)), .unset, .unset, .unset] [(.int (lcmpW q1 (-1440000 : Int64)))])) _
    refine XS.ifYes X8.here hx rfl (pc0 := 48) (pc' := 55) rfl (hb hby at_48) rfl ((if0 _ _).trans (flt hc48).2.1) (by decide) (by decide) ?_
    show Steps p.tables e below (T8.setTop (mkF m 55 #[.val (.long q1), .second, .val (.int p2), .val (.int p3), .val (.int kk6), .val (.ref b4), .val (.int (F3 (FP.l2d (240000 : Int64)) FP.dconst1)), .val (.int (F3 w3 FP.dconst1)), .unset, .unset, .unset] [])) _
    refine XS.iconst X8.here hx rfl (hb hby at_55) ?_
    show Steps p.tables e below (T8.setTop (mkF m 56 #[.val (.long q1), .second, .val (.int p2), .val (.int p3), .val (.int kk6), .val (.ref b4), .val (.int (F3 (FP.l2d (240000 : Int64)) FP.dconst1)), .val (.int (F3 w3 FP.dconst1)), .unset, .unset, .unset] [(.int (0 : Int32))])) _
    refine XS.istore X8.here hx rfl (hb hby at_56) rfl (l' := #[.val (.long q1), .second, .val (.int p2), .val (.int p3), .val (.int kk6), .val (.ref b4), .val (.int (F3 (FP.l2d (240000 : Int64)) FP.dconst1)), .val (.int (F3 w3 FP.dconst1)), .val (.int (0 : Int32)), .unset, .unset]) rfl ?_
    show Steps p.tables e below (T8.setTop (mkF m 58 #[.val (.long q1), .second, .val (.int p2), .val (.int p3), .val (.int kk6), .val (.ref b4), .val (.int (F3 (FP.l2d (240000 : Int64)) FP.dconst1)), .val (.int (F3 w3 FP.dconst1)), .val (.int (0 : Int32)), .unset, .unset] [])) _
    refine XS.aload X8.here hx rfl (hb hby at_58) rfl rfl ?_
    show Steps p.tables e below (T8.setTop (mkF m 60 #[.val (.long q1), .second, .val (.int p2), .val (.int p3), .val (.int kk6), .val (.ref b4), .val (.int (F3 (FP.l2d (240000 : Int64)) FP.dconst1)), .val (.int (F3 w3 FP.dconst1)), .val (.int (0 : Int32)), .unset, .unset] [(.ref b4)])) _
    refine XS.iload X8.here hx rfl (hb hby at_60) rfl ?_
    show Steps p.tables e below (T8.setTop (mkF m 62 #[.val (.long q1), .second, .val (.int p2), .val (.int p3), .val (.int kk6), .val (.ref b4), .val (.int (F3 (FP.l2d (240000 : Int64)) FP.dconst1)), .val (.int (F3 w3 FP.dconst1)), .val (.int (0 : Int32)), .unset, .unset] [(.int kk6), (.ref b4)])) _
    refine st9.trans ?_
    show Steps p.tables e below (T9.setTop (mkF m 65 #[.val (.long q1), .second, .val (.int p2), .val (.int p3), .val (.int kk6), .val (.ref b4), .val (.int (F3 (FP.l2d (240000 : Int64)) FP.dconst1)), .val (.int (F3 w3 FP.dconst1)), .val (.int (0 : Int32)), .unset, .unset] [])) _
    refine XS.goto X9.here hx rfl (pc0 := 65) (pc' := 91) rfl (hb hby at_65) (by decide) (by decide) ?_
    show Steps p.tables e below (T9.setTop (mkF m 91 #[.val (.long q1), .second, .val (.int p2), .val (.int p3), .val (.int kk6), .val (.ref b4), .val (.int (F3 (FP.l2d (240000 : Int64)) FP.dconst1)), .val (.int (F3 w3 FP.dconst1)), .val (.int (0 : Int32)), .unset, .unset] [])) _
    refine XS.aload X9.here hx rfl (hb hby at_91) rfl rfl ?_
    show Steps p.tables e below (T9.setTop (mkF m 93 #[.val (.long q1), .second, .val (.int p2), .val (.int p3), .val (.int kk6), .val (.ref b4), .val (.int (F3 (FP.l2d (240000 : Int64)) FP.dconst1)), .val (.int (F3 w3 FP.dconst1)), .val (.int (0 : Int32)), .unset, .unset] [(.ref b4)])) _
    refine st10.trans ?_
    show Steps p.tables e below (T10.setTop (mkF m 96 #[.val (.long q1), .second, .val (.int p2), .val (.int p3), .val (.int kk6), .val (.ref b4), .val (.int (F3 (FP.l2d (240000 : Int64)) FP.dconst1)), .val (.int (F3 w3 FP.dconst1)), .val (.int (0 : Int32)), .unset, .unset] [(.int (F3 w3 c3))])) _
    refine XS.istore X10.here hx rfl (hb hby at_96) rfl (l' := #[.val (.long q1), .second, .val (.int p2), .val (.int p3), .val (.int kk6), .val (.ref b4), .val (.int (F3 (FP.l2d (240000 : Int64)) FP.dconst1)), .val (.int (F3 w3 FP.dconst1)), .val (.int (0 : Int32)), .val (.int (F3 w3 c3)), .unset]) rfl ?_
    show Steps p.tables e below (T10.setTop (mkF m 98 #[.val (.long q1), .second, .val (.int p2), .val (.int p3), .val (.int kk6), .val (.ref b4), .val (.int (F3 (FP.l2d (240000 : Int64)) FP.dconst1)), .val (.int (F3 w3 FP.dconst1)), .val (.int (0 : Int32)), .val (.int (F3 w3 c3)), .unset] [])) _
    refine XS.lloadN X10.here hx rfl (hb hby at_98) rfl ?_
    show Steps p.tables e below (T10.setTop (mkF m 99 #[.val (.long q1), .second, .val (.int p2), .val (.int p3), .val (.int kk6), .val (.ref b4), .val (.int (F3 (FP.l2d (240000 : Int64)) FP.dconst1)), .val (.int (F3 w3 FP.dconst1)), .val (.int (0 : Int32)), .val (.int (F3 w3 c3)), .unset] [(.long q1)])) _
    refine X10.ldc2Long hx hown (mvT hZ (hw _ (List.mem_of_getElem? (i := 33) rfl))) (g := (mkF m 99 #[.val (.long q1), .second, .val (.int p2), .val (.int p3), .val (.int kk6), .val (.ref b4), .val (.int (F3 (FP.l2d (240000 : Int64)) FP.dconst1)), .val (.int (F3 w3 FP.dconst1)), .val (.int (0 : Int32)), .val (.int (F3 w3 c3)), .unset] [(.long q1)])) rfl (hb hby at_99) _ ?_
    show Steps p.tables e below (T10.setTop (mkF m 102 #[.val (.long q1), .second, .val (.int p2), .val (.int p3), .val (.int kk6), .val (.ref b4), .val (.int (F3 (FP.l2d (240000 : Int64)) FP.dconst1)), .val (.int (F3 w3 FP.dconst1)), .val (.int (0 : Int32)), .val (.int (F3 w3 c3)), .unset] [(.long (-1440000 : Int64)), (.long q1)])) _
    refine XS.lcmp X10.here hx rfl (hb hby at_102) rfl ?_
    show Steps p.tables e below (T10.setTop (mkF m 103 #[.val (.long q1), .second, .val (.int p2), .val (.int p3), .val (.int kk6), .val (.ref b4), .val (.int (F3 (FP.l2d (240000 : Int64)) FP.dconst1)), .val (.int (F3 w3 FP.dconst1)), .val (.int (0 : Int32)), .val (.int (F3 w3 c3)), .unset] [(.int (lcmpW q1 (-1440000 : Int64)))])) _
    refine XS.ifYes X10.here hx rfl (pc0 := 103) (pc' := 116) rfl (hb hby at_103) rfl ((if0 _ _).trans (flt hc103).2.1) (by decide) (by decide) ?_
    show Steps p.tables e below (T10.setTop (mkF m 116 #[.val (.long q1), .second, .val (.int p2), .val (.int p3), .val (.int kk6), .val (.ref b4), .val (.int (F3 (FP.l2d (240000 : Int64)) FP.dconst1)), .val (.int (F3 w3 FP.dconst1)), .val (.int (0 : Int32)), .val (.int (F3 w3 c3)), .unset] [])) _
    refine XS.iconst X10.here hx rfl (hb hby at_116) ?_
    show Steps p.tables e below (T10.setTop (mkF m 117 #[.val (.long q1), .second, .val (.int p2), .val (.int p3), .val (.int kk6), .val (.ref b4), .val (.int (F3 (FP.l2d (240000 : Int64)) FP.dconst1)), .val (.int (F3 w3 FP.dconst1)), .val (.int (0 : Int32)), .val (.int (F3 w3 c3)), .unset] [(.int (0 : Int32))])) _
    refine XS.istore X10.here hx rfl (hb hby at_117) rfl (l' := #[.val (.long q1), .second, .val (.int p2), .val (.int p3), .val (.int kk6), .val (.ref b4), .val (.int (F3 (FP.l2d (240000 : Int64)) FP.dconst1)), .val (.int (F3 w3 FP.dconst1)), .val (.int (0 : Int32)), .val (.int (F3 w3 c3)), .val (.int (0 : Int32))]) rfl ?_
    show Steps p.tables e below (T10.setTop (mkF m 119 #[.val (.long q1), .second, .val (.int p2), .val (.int p3), .val (.int kk6), .val (.ref b4), .val (.int (F3 (FP.l2d (240000 : Int64)) FP.dconst1)), .val (.int (F3 w3 FP.dconst1)), .val (.int (0 : Int32)), .val (.int (F3 w3 c3)), .val (.int (0 : Int32))] [])) _
    refine XS.iload X10.here hx rfl (hb hby at_119) rfl ?_
    show Steps p.tables e below (T10.setTop (mkF m 121 #[.val (.long q1), .second, .val (.int p2), .val (.int p3), .val (.int kk6), .val (.ref b4), .val (.int (F3 (FP.l2d (240000 : Int64)) FP.dconst1)), .val (.int (F3 w3 FP.dconst1)), .val (.int (0 : Int32)), .val (.int (F3 w3 c3)), .val (.int (0 : Int32))] [(.int (F3 (FP.l2d (240000 : Int64)) FP.dconst1))])) _
    refine XS.ifNo X10.here hx rfl (hb hby at_121) rfl ((if0 _ _).trans (teq hq1).2) ?_
    show Steps p.tables e below (T10.setTop (mkF m 124 #[.val (.long q1), .second, .val (.int p2), .val (.int p3), .val (.int kk6), .val (.ref b4), .val (.int (F3 (FP.l2d (240000 : Int64)) FP.dconst1)), .val (.int (F3 w3 FP.dconst1)), .val (.int (0 : Int32)), .val (.int (F3 w3 c3)), .val (.int (0 : Int32))] [])) _
    refine XS.iload X10.here hx rfl (hb hby at_124) rfl ?_
    show Steps p.tables e below (T10.setTop (mkF m 126 #[.val (.long q1), .second, .val (.int p2), .val (.int p3), .val (.int kk6), .val (.ref b4), .val (.int (F3 (FP.l2d (240000 : Int64)) FP.dconst1)), .val (.int (F3 w3 FP.dconst1)), .val (.int (0 : Int32)), .val (.int (F3 w3 c3)), .val (.int (0 : Int32))] [(.int (F3 w3 FP.dconst1))])) _
    refine XS.iload X10.here hx rfl (hb hby at_126) rfl ?_
    show Steps p.tables e below (T10.setTop (mkF m 128 #[.val (.long q1), .second, .val (.int p2), .val (.int p3), .val (.int kk6), .val (.ref b4), .val (.int (F3 (FP.l2d (240000 : Int64)) FP.dconst1)), .val (.int (F3 w3 FP.dconst1)), .val (.int (0 : Int32)), .val (.int (F3 w3 c3)), .val (.int (0 : Int32))] [(.int (0 : Int32)), (.int (F3 w3 FP.dconst1))])) _
    refine XS.icmpNo X10.here hx rfl (hb hby at_128) rfl (teq hq2).2 ?_
    show Steps p.tables e below (T10.setTop (mkF m 131 #[.val (.long q1), .second, .val (.int p2), .val (.int p3), .val (.int kk6), .val (.ref b4), .val (.int (F3 (FP.l2d (240000 : Int64)) FP.dconst1)), .val (.int (F3 w3 FP.dconst1)), .val (.int (0 : Int32)), .val (.int (F3 w3 c3)), .val (.int (0 : Int32))] [])) _
    refine XS.iload X10.here hx rfl (hb hby at_131) rfl ?_
    show Steps p.tables e below (T10.setTop (mkF m 133 #[.val (.long q1), .second, .val (.int p2), .val (.int p3), .val (.int kk6), .val (.ref b4), .val (.int (F3 (FP.l2d (240000 : Int64)) FP.dconst1)), .val (.int (F3 w3 FP.dconst1)), .val (.int (0 : Int32)), .val (.int (F3 w3 c3)), .val (.int (0 : Int32))] [(.int (F3 w3 c3))])) _
    refine XS.iload X10.here hx rfl (hb hby at_133) rfl ?_
    show Steps p.tables e below (T10.setTop (mkF m 135 #[.val (.long q1), .second, .val (.int p2), .val (.int p3), .val (.int kk6), .val (.ref b4), .val (.int (F3 (FP.l2d (240000 : Int64)) FP.dconst1)), .val (.int (F3 w3 FP.dconst1)), .val (.int (0 : Int32)), .val (.int (F3 w3 c3)), .val (.int (0 : Int32))] [(.int (0 : Int32)), (.int (F3 w3 c3))])) _
    refine XS.icmpNo X10.here hx rfl (hb hby at_135) rfl (teq hq3).2 ?_
    show Steps p.tables e below (T10.setTop (mkF m 138 #[.val (.long q1), .second, .val (.int p2), .val (.int p3), .val (.int kk6), .val (.ref b4), .val (.int (F3 (FP.l2d (240000 : Int64)) FP.dconst1)), .val (.int (F3 w3 FP.dconst1)), .val (.int (0 : Int32)), .val (.int (F3 w3 c3)), .val (.int (0 : Int32))] [])) _
    refine XS.iconst X10.here hx rfl (hb hby at_138) ?_
    show Steps p.tables e below (T10.setTop (mkF m 139 #[.val (.long q1), .second, .val (.int p2), .val (.int p3), .val (.int kk6), .val (.ref b4), .val (.int (F3 (FP.l2d (240000 : Int64)) FP.dconst1)), .val (.int (F3 w3 FP.dconst1)), .val (.int (0 : Int32)), .val (.int (F3 w3 c3)), .val (.int (0 : Int32))] [(.int (1 : Int32))])) _
    refine XS.goto X10.here hx rfl (pc0 := 139) (pc' := 143) rfl (hb hby at_139) (by decide) (by decide) ?_
    show Steps p.tables e below (T10.setTop (mkF m 143 #[.val (.long q1), .second, .val (.int p2), .val (.int p3), .val (.int kk6), .val (.ref b4), .val (.int (F3 (FP.l2d (240000 : Int64)) FP.dconst1)), .val (.int (F3 w3 FP.dconst1)), .val (.int (0 : Int32)), .val (.int (F3 w3 c3)), .val (.int (0 : Int32))] [(.int (1 : Int32))])) _
    exact retN X10 hx (t := .boolean) Bd.returns (by simp) (hb hby at_143) hr
  · show QL n0 _ T10.heap _
    exact ⟨rfl, N10⟩
set_option maxRecDepth 65536 in
set_option maxHeartbeats 40000000 in
theorem rm0_tfffff (l : Launch) (Z : State) (a0 : Array Value) (hw : ∀ d ∈ tables_1, d.before a0 Z = true) (ws : List Jvm.Cond) (q1 : Int64) (p2 : Int32) (p3 : Int32) (kk6 : Int32) (w1 : UInt64) (w2 : UInt64) (w3 : UInt64) (c1 : UInt64) (c2 : UInt64) (c3 : UInt64) (h0 : Heap) (n0 : Nat) (Z0 : n0 ≤ h0.size) (hk6 : ((1 : Int32) + (p2 &&& (1073741823 : Int32))) = kk6) (hw1 : (FP.dsub (FP.l2d (F5 q1 (240000 : Int64))) (FP.l2d (240000 : Int64))) = w1) (hn1 : Jvm.Free.Fl.NoNaN64 (FP.dsub (FP.l2d (F5 q1 (240000 : Int64))) (FP.l2d (240000 : Int64)))) (hw2 : (FP.ddiv w1 (4620693217682128896 : UInt64)) = w2) (hn2 : Jvm.Free.Fl.NoNaN64 (FP.ddiv w1 (4620693217682128896 : UInt64))) (hw3 : (FP.dadd (FP.l2d (240000 : Int64)) w2) = w3) (hn3 : Jvm.Free.Fl.NoNaN64 (FP.dadd (FP.l2d (240000 : Int64)) w2)) (hx1 : (FP.dsub (FP.i2d kk6) FP.dconst1) = c1) (hm1 : Jvm.Free.Fl.NoNaN64 (FP.dsub (FP.i2d kk6) FP.dconst1)) (hx2 : (FP.ddiv c1 (4620693217682128896 : UInt64)) = c2) (hm2 : Jvm.Free.Fl.NoNaN64 (FP.ddiv c1 (4620693217682128896 : UInt64))) (hx3 : (FP.dadd FP.dconst1 c2) = c3) (hm3 : Jvm.Free.Fl.NoNaN64 (FP.dadd FP.dconst1 c2)) (S0 : Sta Z h0 "com/example/tanager/tanager/Polling" "LONGEST_WAIT_COUNTED" "J" (.long (240000 : Int64))) (S0' : Sta Z h0 "com/example/tanager/tanager/Polling" "NANOS" "J" (.long (30000 : Int64))) (hc27 : (p3 &&& (1 : Int32)) = (0 : Int32)) (hc103 : (lcmpW q1 (-1440000 : Int64)) < (0 : Int32)) (hc109 : kk6 < (5 : Int32)) (hq1 : (F3 (FP.l2d (240000 : Int64)) FP.dconst1) = (0 : Int32)) (hq2 : (F3 (FP.l2d (240000 : Int64)) c3) = (0 : Int32)) (hq3 : (F3 w3 c3) = (1 : Int32)) :
    MetFree l x (head1 (Jvm.Cond.code x code maxLocals ret :: ws) room_1) (fun a U => a = #[(.long q1), (.int p2), (.int p3)] ∧ Z.Warmed39 U.vm ∧ U.heap = h0) (fun _ _ _ _ _ => True) (fun _ U o U' => ∃ v L, o = .returned v ∧ QL n0 v U'.heap L ∧ FrameEnd U o U' L room_1.cells room_1.slots) := by
  refine MetFree.of_bodySF (plainFor_of_name pn_0) hisR ?_
  intro p e s m args below meth c s₁ Bd hml0 hP hK
  obtain ⟨rfl, hZ, hh⟩ := hP
  have hx := Bd.exec
  have hby := Bd.bytes
  have hml : c.maxLocals = 11 := hml0
  have hown : s.vm.findClass "com/example/tanager/tanager/PollingWorthItPinLaw" = some m.cls := findClass_of_methodNamed Bd.named
  have hnm := (name_of_methodNamed Bd.named Bd.method).1
  have X0 : Stand p l e room_1 s m #[(.long q1), (.int p2), (.int p3)] below meth c s₁ [] 0 0 := Stand.of_body Bd
  have e0 : s₁.heap = h0 := by rw [← hh, Bd.state]; rfl
  have N0 := Fr.nil n0
  have pre0 : ∀ t, Steps p.tables e below (s₁.setTop (mkF m 0 #[.val (.long q1), .second, .val (.int p2), .val (.int p3), .unset, .unset, .unset, .unset, .unset, .unset, .unset] [])) t → Steps p.tables e below (s₁.setTop (entryFrame m #[(.long q1), (.int p2), (.int p3)] maxLocals)) t := fun t k => castTop (ef_0 m q1 p2 p3) k
  obtain ⟨T4, h4, X4, e4, E4, A4, D4, -, st4⟩ := newO X0 hx hZ hown (hw _ (List.mem_of_getElem? (i := 1) rfl)) (hw _ (List.mem_of_getElem? (i := 2) rfl)) (hw _ (List.mem_of_getElem? (i := 3) rfl)) e0 (g := (mkF m 8 #[.val (.long q1), .second, .val (.int p2), .val (.int p3), .val (.int kk6), .unset, .unset, .unset, .unset, .unset, .unset] [])) rfl (hb hby at_8) (by decide) (by decide)
  obtain ⟨b4, g4⟩ : ∃ z, z = h0.size := ⟨_, rfl⟩
  rw [← g4] at A4 D4 st4
  have F_recentWaitNanos_b4 : Fld Z h4 b4 "com/example/tanager/tanager/Polling" "recentWaitNanos" "D" (.double (0 : UInt64)) := D4 (Or.inl (hw _ (List.mem_of_getElem? (i := 13) rfl))) (ty := .double) (by decide)
  have F_recentCalls_b4 : Fld Z h4 b4 "com/example/tanager/tanager/Polling" "recentCalls" "D" (.double (0 : UInt64)) := D4 (Or.inl (hw _ (List.mem_of_getElem? (i := 15) rfl))) (ty := .double) (by decide)
  have E_b4 := A4
  have g_b4 : n0 ≤ b4 := Nat.le_trans Z0 (Nat.le_of_eq g4.symm)
  have sz_b4 : h0.size ≤ b4 := (Nat.le_trans (Keep.refl h0 []).1 (Nat.le_of_eq g4.symm))
  have K4 : Keep h0 h4 [] := (Keep.refl h0 []).ext E4
  obtain ⟨_, _, ⟨T5, L5, k5, n5⟩, -, X5, ⟨Lc5, hQ5, l5, y5, z5⟩, st5⟩ := X4.specialBack hx (y := (⟨"com/example/tanager/tanager/Polling", "<init>", "()V"⟩ : MethodName)) rfl hown (mvT hZ (hw _ (List.mem_of_getElem? (i := 4) rfl))) (mvT hZ (hw _ (List.mem_of_getElem? (i := 5) rfl))) (mvT hZ (hw _ (List.mem_of_getElem? (i := 6) rfl))) (by decide) (backOf (W := 1) (rm1 l Z a0 hw [] b4 (240000 : Int64) _ _ h4 n0 (Nat.le_trans Z0 E4.1) (S0.ext E4) E_b4 F_recentWaitNanos_b4 g_b4 F_recentCalls_b4) hZ (hw _ (List.mem_of_getElem? (i := 6) rfl)) (hw _ (List.mem_of_getElem? (i := 3) rfl)) (by decide) (by decide)) (g := (mkF m 12 #[.val (.long q1), .second, .val (.int p2), .val (.int p3), .val (.int kk6), .unset, .unset, .unset, .unset, .unset, .unset] [(.ref b4), (.ref b4)])) rfl (by rw [hml]; rfl) (Steps.refl _) (a := b4) (argsL := []) (rest := [(.ref b4)]) (lenOf pd_0_0 rfl) rfl (by show 2 * 0 + _ ≤ _; exact Nat.le_of_eq rfl) (hb hby at_12) (fun _ _ => ⟨rfl, e4, (by decide : 1 + 0 ≤ _), (by decide : 2 + 0 ≤ _)⟩)
  dsimp only [Pt.U, Pt.locs, Pt.cells, Pt.slots] at X5 l5 y5 z5 st5 hQ5
  subst l5 y5 z5
  obtain ⟨rfl, N5q, K5c, E5, Fw5, Fc5⟩ := hQ5
  have Z5 : n0 ≤ T5.heap.size := Nat.le_trans (Nat.le_trans Z0 E4.1) K5c.1
  have S5 := own_sta_keep (S0.ext E4) K5c E_b4
  have S5' := own_sta_keep (S0'.ext E4) K5c E_b4
  have N5 := Fr.app N0 N5q
  obtain ⟨cq6, kq6, q6a, q6b, q6c⟩ := isOf hZ rfl (E_b4.keep K5c)
  obtain ⟨_, _, ⟨T6, L6, k6, n6⟩, -, X6, ⟨Lc6, hQ6, l6, y6, z6⟩, st6⟩ := X5.virtualBack hx (y := (⟨"com/example/tanager/tanager/Polling", "worthIt", "()Z"⟩ : MethodName)) (z := (⟨"com/example/tanager/tanager/Polling", "worthIt", "()Z"⟩ : MethodName)) hown (mvT hZ (hw _ (List.mem_of_getElem? (i := 16) rfl))) (mvT hZ (hw _ (List.mem_of_getElem? (i := 17) rfl))) (notFace_of_selects (args := #[]) (mvT hZ (hw _ (List.mem_of_getElem? (i := 19) rfl)))) (mvT hZ (hw _ (List.mem_of_getElem? (i := 19) rfl))) (mvT hZ (hw _ (List.mem_of_getElem? (i := 18) rfl))) (by decide) (backOf (W := 0) (rm3 l Z a0 hw [] b4 (FP.l2d (240000 : Int64)) FP.dconst1 T5.heap n0 Z5 Fw5 S5' Fc5) hZ (hw _ (List.mem_of_getElem? (i := 20) rfl)) (hw _ (List.mem_of_getElem? (i := 3) rfl)) (by decide) (by decide)) q6a q6c (g := (mkF m 19 #[.val (.long q1), .second, .val (.int p2), .val (.int p3), .val (.int kk6), .val (.ref b4), .unset, .unset, .unset, .unset, .unset] [(.ref b4)])) rfl (by rw [hml]; rfl) (Steps.refl _) (argsL := []) (rest := []) (lenOf pd_0_1 rfl) rfl (by show 2 * 0 + _ ≤ _; exact Nat.le_of_eq rfl) (hb hby at_19) (fun _ _ => ⟨rfl, rfl, (by decide : 1 + 0 ≤ _), (by decide : 2 + 0 ≤ _)⟩)
  dsimp only [Pt.U, Pt.locs, Pt.cells, Pt.slots] at X6 l6 y6 z6 st6 hQ6
  subst l6 y6 z6
  obtain ⟨rfl, N6q, eh6⟩ := hQ6
  have K6c : Keep T5.heap T6.heap [] := by rw [eh6]; exact Keep.refl _ _
  have Z6 : n0 ≤ T6.heap.size := by rw [eh6]; exact Z5
  have E6 := E5.keep K6c
  have Fw6 := Fw5.keep K6c (by simp)
  have Fc6 := Fc5.keep K6c (by simp)
  have S6 : Sta Z T6.heap "com/example/tanager/tanager/Polling" "LONGEST_WAIT_COUNTED" "J" (.long (240000 : Int64)) := by rw [eh6]; exact S5
  have S6' : Sta Z T6.heap "com/example/tanager/tanager/Polling" "NANOS" "J" (.long (30000 : Int64)) := by rw [eh6]; exact S5'
  have N6 := Fr.app N5 N6q
  obtain ⟨cq7, kq7, q7a, q7b, q7c⟩ := isOf hZ rfl ((E_b4.keep K5c).keep K6c)
  obtain ⟨_, _, ⟨T7, L7, k7, n7⟩, -, X7, ⟨Lc7, hQ7, l7, y7, z7⟩, st7⟩ := X6.virtualBack hx (y := (⟨"com/example/tanager/tanager/Polling", "counted", "(I)V"⟩ : MethodName)) (z := (⟨"com/example/tanager/tanager/Polling", "counted", "(I)V"⟩ : MethodName)) hown (mvT hZ (hw _ (List.mem_of_getElem? (i := 34) rfl))) (mvT hZ (hw _ (List.mem_of_getElem? (i := 35) rfl))) (notFace_of_selects (args := #[]) (mvT hZ (hw _ (List.mem_of_getElem? (i := 37) rfl)))) (mvT hZ (hw _ (List.mem_of_getElem? (i := 37) rfl))) (mvT hZ (hw _ (List.mem_of_getElem? (i := 36) rfl))) (by decide) (backOf (W := 0) (rm6 l Z a0 hw [] b4 kk6 FP.dconst1 c1 c2 c3 (FP.l2d (240000 : Int64)) T6.heap n0 Z6 Fc6 E6 Fw6 g_b4 hx1 hm1 hx2 hm2 hx3 hm3) hZ (hw _ (List.mem_of_getElem? (i := 38) rfl)) (hw _ (List.mem_of_getElem? (i := 3) rfl)) (by decide) (by decide)) q7a q7c (g := (mkF m 72 #[.val (.long q1), .second, .val (.int p2), .val (.int p3), .val (.int kk6), .val (.ref b4), .val (.int (F3 (FP.l2d (240000 : Int64)) FP.dconst1)), .unset, .unset, .unset, .unset] [(.int kk6), (.ref b4)])) rfl (by rw [hml]; rfl) (Steps.refl _) (argsL := [(.int kk6)]) (rest := []) (lenOf pd_0_4 rfl) rfl (by show 2 * 0 + _ ≤ _; exact Nat.le_of_eq rfl) (hb hby at_72) (fun _ _ => ⟨rfl, rfl, (by decide : 1 + 0 ≤ _), (by decide : 2 + 0 ≤ _)⟩)
  dsimp only [Pt.U, Pt.locs, Pt.cells, Pt.slots] at X7 l7 y7 z7 st7 hQ7
  subst l7 y7 z7
  obtain ⟨rfl, N7q, K7c, E7, Fw7, Fc7⟩ := hQ7
  have Z7 : n0 ≤ T7.heap.size := Nat.le_trans Z6 K7c.1
  have S7 := own_sta_keep S6 K7c E6
  have S7' := own_sta_keep S6' K7c E6
  have N7 := Fr.app N6 N7q
  obtain ⟨cq8, kq8, q8a, q8b, q8c⟩ := isOf hZ rfl (((E_b4.keep K5c).keep K6c).keep K7c)
  obtain ⟨_, _, ⟨T8, L8, k8, n8⟩, -, X8, ⟨Lc8, hQ8, l8, y8, z8⟩, st8⟩ := X7.virtualBack hx (y := (⟨"com/example/tanager/tanager/Polling", "worthIt", "()Z"⟩ : MethodName)) (z := (⟨"com/example/tanager/tanager/Polling", "worthIt", "()Z"⟩ : MethodName)) hown (mvT hZ (hw _ (List.mem_of_getElem? (i := 16) rfl))) (mvT hZ (hw _ (List.mem_of_getElem? (i := 17) rfl))) (notFace_of_selects (args := #[]) (mvT hZ (hw _ (List.mem_of_getElem? (i := 19) rfl)))) (mvT hZ (hw _ (List.mem_of_getElem? (i := 19) rfl))) (mvT hZ (hw _ (List.mem_of_getElem? (i := 18) rfl))) (by decide) (backOf (W := 0) (rm3 l Z a0 hw [] b4 (FP.l2d (240000 : Int64)) c3 T7.heap n0 Z7 Fw7 S7' Fc7) hZ (hw _ (List.mem_of_getElem? (i := 20) rfl)) (hw _ (List.mem_of_getElem? (i := 3) rfl)) (by decide) (by decide)) q8a q8c (g := (mkF m 77 #[.val (.long q1), .second, .val (.int p2), .val (.int p3), .val (.int kk6), .val (.ref b4), .val (.int (F3 (FP.l2d (240000 : Int64)) FP.dconst1)), .unset, .unset, .unset, .unset] [(.ref b4)])) rfl (by rw [hml]; rfl) (Steps.refl _) (argsL := []) (rest := []) (lenOf pd_0_1 rfl) rfl (by show 2 * 0 + _ ≤ _; exact Nat.le_of_eq rfl) (hb hby at_77) (fun _ _ => ⟨rfl, rfl, (by decide : 1 + 0 ≤ _), (by decide : 2 + 0 ≤ _)⟩)
  dsimp only [Pt.U, Pt.locs, Pt.cells, Pt.slots] at X8 l8 y8 z8 st8 hQ8
  subst l8 y8 z8
  obtain ⟨rfl, N8q, eh8⟩ := hQ8
  have K8c : Keep T7.heap T8.heap [] := by rw [eh8]; exact Keep.refl _ _
  have Z8 : n0 ≤ T8.heap.size := by rw [eh8]; exact Z7
  have E8 := E7.keep K8c
  have Fw8 := Fw7.keep K8c (by simp)
  have Fc8 := Fc7.keep K8c (by simp)
  have S8 : Sta Z T8.heap "com/example/tanager/tanager/Polling" "LONGEST_WAIT_COUNTED" "J" (.long (240000 : Int64)) := by rw [eh8]; exact S7
  have S8' : Sta Z T8.heap "com/example/tanager/tanager/Polling" "NANOS" "J" (.long (30000 : Int64)) := by rw [eh8]; exact S7'
  have N8 := Fr.app N7 N8q
  obtain ⟨cq9, kq9, q9a, q9b, q9c⟩ := isOf hZ rfl ((((E_b4.keep K5c).keep K6c).keep K7c).keep K8c)
  obtain ⟨_, _, ⟨T9, L9, k9, n9⟩, -, X9, ⟨Lc9, hQ9, l9, y9, z9⟩, st9⟩ := X8.virtualBack hx (y := (⟨"com/example/tanager/tanager/Polling", "waited", "(J)V"⟩ : MethodName)) (z := (⟨"com/example/tanager/tanager/Polling", "waited", "(J)V"⟩ : MethodName)) hown (mvT hZ (hw _ (List.mem_of_getElem? (i := 23) rfl))) (mvT hZ (hw _ (List.mem_of_getElem? (i := 24) rfl))) (notFace_of_selects (args := #[]) (mvT hZ (hw _ (List.mem_of_getElem? (i := 26) rfl)))) (mvT hZ (hw _ (List.mem_of_getElem? (i := 26) rfl))) (mvT hZ (hw _ (List.mem_of_getElem? (i := 25) rfl))) (by decide) (backOf (W := 0) (rm4 l Z a0 hw [] b4 q1 (FP.l2d (240000 : Int64)) w1 w2 w3 c3 T8.heap n0 Z8 Fw8 S8 E8 Fc8 g_b4 hw1 hn1 hw2 hn2 hw3 hn3) hZ (hw _ (List.mem_of_getElem? (i := 27) rfl)) (hw _ (List.mem_of_getElem? (i := 3) rfl)) (by decide) (by decide)) q9a q9c (g := (mkF m 88 #[.val (.long q1), .second, .val (.int p2), .val (.int p3), .val (.int kk6), .val (.ref b4), .val (.int (F3 (FP.l2d (240000 : Int64)) FP.dconst1)), .val (.int (F3 (FP.l2d (240000 : Int64)) c3)), .val (.int (0 : Int32)), .unset, .unset] [(.long q1), (.ref b4)])) rfl (by rw [hml]; rfl) (Steps.refl _) (argsL := [(.long q1)]) (rest := []) (lenOf pd_0_2 rfl) rfl (by show 2 * 0 + _ ≤ _; exact Nat.le_of_eq rfl) (hb hby at_88) (fun _ _ => ⟨rfl, rfl, (by decide : 1 + 0 ≤ _), (by decide : 2 + 0 ≤ _)⟩)
  dsimp only [Pt.U, Pt.locs, Pt.cells, Pt.slots] at X9 l9 y9 z9 st9 hQ9
  subst l9 y9 z9
  obtain ⟨rfl, N9q, K9c, E9, Fw9, Fc9⟩ := hQ9
  have Z9 : n0 ≤ T9.heap.size := Nat.le_trans Z8 K9c.1
  have S9 := own_sta_keep S8 K9c E8
  have S9' := own_sta_keep S8' K9c E8
  have N9 := Fr.app N8 N9q
  obtain ⟨cq10, kq10, q10a, q10b, q10c⟩ := isOf hZ rfl (((((E_b4.keep K5c).keep K6c).keep K7c).keep K8c).keep K9c)
  obtain ⟨_, _, ⟨T10, L10, k10, n10⟩, -, X10, ⟨Lc10, hQ10, l10, y10, z10⟩, st10⟩ := X9.virtualBack hx (y := (⟨"com/example/tanager/tanager/Polling", "worthIt", "()Z"⟩ : MethodName)) (z := (⟨"com/example/tanager/tanager/Polling", "worthIt", "()Z"⟩ : MethodName)) hown (mvT hZ (hw _ (List.mem_of_getElem? (i := 16) rfl))) (mvT hZ (hw _ (List.mem_of_getElem? (i := 17) rfl))) (notFace_of_selects (args := #[]) (mvT hZ (hw _ (List.mem_of_getElem? (i := 19) rfl)))) (mvT hZ (hw _ (List.mem_of_getElem? (i := 19) rfl))) (mvT hZ (hw _ (List.mem_of_getElem? (i := 18) rfl))) (by decide) (backOf (W := 0) (rm3 l Z a0 hw [] b4 w3 c3 T9.heap n0 Z9 Fw9 S9' Fc9) hZ (hw _ (List.mem_of_getElem? (i := 20) rfl)) (hw _ (List.mem_of_getElem? (i := 3) rfl)) (by decide) (by decide)) q10a q10c (g := (mkF m 93 #[.val (.long q1), .second, .val (.int p2), .val (.int p3), .val (.int kk6), .val (.ref b4), .val (.int (F3 (FP.l2d (240000 : Int64)) FP.dconst1)), .val (.int (F3 (FP.l2d (240000 : Int64)) c3)), .val (.int (0 : Int32)), .unset, .unset] [(.ref b4)])) rfl (by rw [hml]; rfl) (Steps.refl _) (argsL := []) (rest := []) (lenOf pd_0_1 rfl) rfl (by show 2 * 0 + _ ≤ _; exact Nat.le_of_eq rfl) (hb hby at_93) (fun _ _ => ⟨rfl, rfl, (by decide : 1 + 0 ≤ _), (by decide : 2 + 0 ≤ _)⟩)
  dsimp only [Pt.U, Pt.locs, Pt.cells, Pt.slots] at X10 l10 y10 z10 st10 hQ10
  subst l10 y10 z10
  obtain ⟨rfl, N10q, eh10⟩ := hQ10
  have N10 := Fr.app N9 N10q
  obtain ⟨fs, hr, hrun, hended, hW, hsame⟩ := X10.leave (v := some (.int (1 : Int32))) (fun h => by rw [Bd.returns] at h; cases h)
  refine ⟨_, _, pre0 _ ?_, hrun, hended, _, _, rfl, ?_, ⟨_, rfl⟩, hW, hsame.mono (by decide) (by decide)⟩
  · show Steps p.tables e below (s₁.setTop (mkF m 0 #[.val (.long q1), .second, .val (.int p2), .val (.int p3), .unset, .unset, .unset, .unset, .unset, .unset, .unset] [])) _
    refine XS.iconst X0.here hx rfl (hb hby at_0) ?_
    show Steps p.tables e below (s₁.setTop (mkF m 1 #[.val (.long q1), .second, .val (.int p2), .val (.int p3), .unset, .unset, .unset, .unset, .unset, .unset, .unset] [(.int (1 : Int32))])) _
    refine XS.iloadN X0.here hx rfl (hb hby at_1) rfl ?_
    show Steps p.tables e below (s₁.setTop (mkF m 2 #[.val (.long q1), .second, .val (.int p2), .val (.int p3), .unset, .unset, .unset, .unset, .unset, .unset, .unset] [(.int p2), (.int (1 : Int32))])) _
    refine X0.ldcInt hx hown (mvT hZ (hw _ (List.mem_of_getElem? (i := 0) rfl))) (g := (mkF m 2 #[.val (.long q1), .second, .val (.int p2), .val (.int p3), .unset, .unset, .unset, .unset, .unset, .unset, .unset] [(.int p2), (.int (1 : Int32))])) rfl (hb hby at_2) _ ?_
    show Steps p.tables e below (s₁.setTop (mkF m 4 #[.val (.long q1), .second, .val (.int p2), .val (.int p3), .unset, .unset, .unset, .unset, .unset, .unset, .unset] [(.int (1073741823 : Int32)), (.int p2), (.int (1 : Int32))])) _
    refine XS.iand X0.here hx rfl (hb hby at_4) rfl ?_
    show Steps p.tables e below (s₁.setTop (mkF m 5 #[.val (.long q1), .second, .val (.int p2), .val (.int p3), .unset, .unset, .unset, .unset, .unset, .unset, .unset] [(.int (p2 &&& (1073741823 : Int32))), (.int (1 : Int32))])) _
    refine XS.iadd X0.here hx rfl (hb hby at_5) rfl ?_
    show Steps p.tables e below (s₁.setTop (mkF m 6 #[.val (.long q1), .second, .val (.int p2), .val (.int p3), .unset, .unset, .unset, .unset, .unset, .unset, .unset] [(.int ((1 : Int32) + (p2 &&& (1073741823 : Int32))))])) _
    refine XS.istore X0.here hx rfl (hb hby at_6) rfl (l' := #[.val (.long q1), .second, .val (.int p2), .val (.int p3), .val (.int ((1 : Int32) + (p2 &&& (1073741823 : Int32)))), .unset, .unset, .unset, .unset, .unset, .unset]) rfl ?_
    show Steps p.tables e below (s₁.setTop (mkF m 8 #[.val (.long q1), .second, .val (.int p2), .val (.int p3), .val (.int ((1 : Int32) + (p2 &&& (1073741823 : Int32)))), .unset, .unset, .unset, .unset, .unset, .unset] [])) _
    rw [hk6]
    show Steps p.tables e below (s₁.setTop (mkF m 8 #[.val (.long q1), .second, .val (.int p2), .val (.int p3), .val (.int kk6), .unset, .unset, .unset, .unset, .unset, .unset] [])) _
    refine st4 _ ?_
    show Steps p.tables e below (T4.setTop (mkF m 11 #[.val (.long q1), .second, .val (.int p2), .val (.int p3), .val (.int kk6), .unset, .unset, .unset, .unset, .unset, .unset] [(.ref b4)])) _
    refine XS.dup X4.here hx rfl (hb hby at_11) rfl rfl ?_
    show Steps p.tables e below (T4.setTop (mkF m 12 #[.val (.long q1), .second, .val (.int p2), .val (.int p3), .val (.int kk6), .unset, .unset, .unset, .unset, .unset, .unset] [(.ref b4), (.ref b4)])) _
    refine st5.trans ?_
    show Steps p.tables e below (T5.setTop (mkF m 15 #[.val (.long q1), .second, .val (.int p2), .val (.int p3), .val (.int kk6), .unset, .unset, .unset, .unset, .unset, .unset] [(.ref b4)])) _
    refine XS.astore X5.here hx rfl (hb hby at_15) rfl rfl (l' := #[.val (.long q1), .second, .val (.int p2), .val (.int p3), .val (.int kk6), .val (.ref b4), .unset, .unset, .unset, .unset, .unset]) rfl ?_
    show Steps p.tables e below (T5.setTop (mkF m 17 #[.val (.long q1), .second, .val (.int p2), .val (.int p3), .val (.int kk6), .val (.ref b4), .unset, .unset, .unset, .unset, .unset] [])) _
    refine XS.aload X5.here hx rfl (hb hby at_17) rfl rfl ?_
    show Steps p.tables e below (T5.setTop (mkF m 19 #[.val (.long q1), .second, .val (.int p2), .val (.int p3), .val (.int kk6), .val (.ref b4), .unset, .unset, .unset, .unset, .unset] [(.ref b4)])) _
    refine st6.trans ?_
    show Steps p.tables e below (T6.setTop (mkF m 22 #[.val (.long q1), .second, .val (.int p2), .val (.int p3), .val (.int kk6), .val (.ref b4), .unset, .unset, .unset, .unset, .unset] [(.int (F3 (FP.l2d (240000 : Int64)) FP.dconst1))])) _
    refine XS.istore X6.here hx rfl (hb hby at_22) rfl (l' := #[.val (.long q1), .second, .val (.int p2), .val (.int p3), .val (.int kk6), .val (.ref b4), .val (.int (F3 (FP.l2d (240000 : Int64)) FP.dconst1)), .unset, .unset, .unset, .unset]) rfl ?_
    show Steps p.tables e below (T6.setTop (mkF m 24 #[.val (.long q1), .second, .val (.int p2), .val (.int p3), .val (.int kk6), .val (.ref b4), .val (.int (F3 (FP.l2d (240000 : Int64)) FP.dconst1)), .unset, .unset, .unset, .unset] [])) _
    refine XS.iloadN X6.here hx rfl (hb hby at_24) rfl ?_
    show Steps p.tables e below (T6.setTop (mkF m 25 #[.val (.long q1), .second, .val (.int p2), .val (.int p3), .val (.int kk6), .val (.ref b4), .val (.int (F3 (FP.l2d (240000 : Int64)) FP.dconst1)), .unset, .unset, .unset, .unset] [(.int p3)])) _
    refine XS.iconst X6.here hx rfl (hb hby at_25) ?_
    show Steps p.tables e below (T6.setTop (mkF m 26 #[.val (.long q1), .second, .val (.int p2), .val (.int p3), .val (.int kk6), .val (.ref b4), .val (.int (F3 (FP.l2d (240000 : Int64)) FP.dconst1)), .unset, .unset, .unset, .unset] [(.int (1 : Int32)), (.int p3)])) _
    refine XS.iand X6.here hx rfl (hb hby at_26) rfl ?_
    show Steps p.tables e below (T6.setTop (mkF m 27 #[.val (.long q1), .second, .val (.int p2), .val (.int p3), .val (.int kk6), .val (.ref b4), .val (.int (F3 (FP.l2d (240000 : Int64)) FP.dconst1)), .unset, .unset, .unset, .unset] [(.int (p3 &&& (1 : Int32)))])) _
    refine XS.ifYes X6.here hx rfl (pc0 := 27) (pc' := 68) rfl (hb hby at_27) rfl ((if0 _ _).trans (teq hc27).1) (by decide) (by decide) ?_
    show Steps p.tables e below (T6.setTop (mkF m 68 #[.val (.long q1), .second, .val (.int p2), .val (.int p3), .val (.int kk6), .val (.ref b4), .val (.int (F3 (FP.l2d (240000 : Int64)) FP.dconst1)), .unset, .unset, .unset, .unset] [])) _
    refine XS.aload X6.here hx rfl (hb hby at_68) rfl rfl ?_
    show Steps p.tables e below (T6.setTop (mkF m 70 #[.val (.long q1), .second, .val (.int p2), .val (.int p3), .val (.int kk6), .val (.ref b4), .val (.int (F3 (FP.l2d (240000 : Int64)) FP.dconst1)), .unset, .unset, .unset, .unset] [(.ref b4)])) _
    refine XS.iload X6.here hx rfl (hb hby at_70) rfl ?_
    show Steps p.tables e below (T6.setTop (mkF m 72 #[.val (.long q1), .second, .val (.int p2), .val (.int p3), .val (.int kk6), .val (.ref b4), .val (.int (F3 (FP.l2d (240000 : Int64)) FP.dconst1)), .unset, .unset, .unset, .unset] [(.int kk6), (.ref b4)])) _
    refine st7.trans ?_
    show Steps p.tables e below (T7.setTop (mkF m 75 #[.val (.long q1), .second, .val (.int p2), .val (.int p3), .val (.int kk6), .val (.ref b4), .val (.int (F3 (FP.l2d (240000 : Int64)) FP.dconst1)), .unset, .unset, .unset, .unset] [])) _
    refine XS.aload X7.here hx rfl (hb hby at_75) rfl rfl ?_
    show Steps p.tables e below (T7.setTop (mkF m 77 #[.val (.long q1), .second, .val (.int p2), .val (.int p3), .val (.int kk6), .val (.ref b4), .val (.int (F3 (FP.l2d (240000 : Int64)) FP.dconst1)), .unset, .unset, .unset, .unset] [(.ref b4)])) _
    refine st8.trans ?_
    show Steps p.tables e below (T8.setTop (mkF m 80 #[.val (.long q1), .second, .val (.int p2), .val (.int p3), .val (.int kk6), .val (.ref b4), .val (.int (F3 (FP.l2d (240000 : Int64)) FP.dconst1)), .unset, .unset, .unset, .unset] [(.int (F3 (FP.l2d (240000 : Int64)) c3))])) _
    refine XS.istore X8.here hx rfl (hb hby at_80) rfl (l' := #[.val (.long q1), .second, .val (.int p2), .val (.int p3), .val (.int kk6), .val (.ref b4), .val (.int (F3 (FP.l2d (240000 : Int64)) FP.dconst1)), .val (.int (F3 (FP.l2d (240000 : Int64)) c3)), .unset, .unset, .unset]) rfl ?_
    show Steps p.tables e below (T8.setTop (mkF m 82 #[.val (.long q1), .second, .val (.int p2), .val (.int p3), .val (.int kk6), .val (.ref b4), .val (.int (F3 (FP.l2d (240000 : Int64)) FP.dconst1)), .val (.int (F3 (FP.l2d (240000 : Int64)) c3)), .unset, .unset, .unset] [])) _
    refine XS.iconst X8.here hx rfl (hb hby at_82) ?_
    show Steps p.tables e below (T8.setTop (mkF m 83 #[.val (.long q1), .second, .val (.int p2), .val (.int p3), .val (.int kk6), .val (.ref b4), .val (.int (F3 (FP.l2d (240000 : Int64)) FP.dconst1)), .val (.int (F3 (FP.l2d (240000 : Int64)) c3)), .unset, .unset, .unset] [(.int (0 : Int32))])) _
    refine XS.istore X8.here hx rfl (hb hby at_83) rfl (l' := #[.val (.long q1), .second, .val (.int p2), .val (.int p3), .val (.int kk6), .val (.ref b4), .val (.int (F3 (FP.l2d (240000 : Int64)) FP.dconst1)), .val (.int (F3 (FP.l2d (240000 : Int64)) c3)), .val (.int (0 : Int32)), .unset, .unset]) rfl ?_
    show Steps p.tables e below (T8.setTop (mkF m 85 #[.val (.long q1), .second, .val (.int p2), .val (.int p3), .val (.int kk6), .val (.ref b4), .val (.int (F3 (FP.l2d (240000 : Int64)) FP.dconst1)), .val (.int (F3 (FP.l2d (240000 : Int64)) c3)), .val (.int (0 : Int32)), .unset, .unset] [])) _
    refine XS.aload X8.here hx rfl (hb hby at_85) rfl rfl ?_
    show Steps p.tables e below (T8.setTop (mkF m 87 #[.val (.long q1), .second, .val (.int p2), .val (.int p3), .val (.int kk6), .val (.ref b4), .val (.int (F3 (FP.l2d (240000 : Int64)) FP.dconst1)), .val (.int (F3 (FP.l2d (240000 : Int64)) c3)), .val (.int (0 : Int32)), .unset, .unset] [(.ref b4)])) _
    refine XS.lloadN X8.here hx rfl (hb hby at_87) rfl ?_
    show Steps p.tables e below (T8.setTop (mkF m 88 #[.val (.long q1), .second, .val (.int p2), .val (.int p3), .val (.int kk6), .val (.ref b4), .val (.int (F3 (FP.l2d (240000 : Int64)) FP.dconst1)), .val (.int (F3 (FP.l2d (240000 : Int64)) c3)), .val (.int (0 : Int32)), .unset, .unset] [(.long q1), (.ref b4)])) _
    refine st9.trans ?_
    show Steps p.tables e below (T9.setTop (mkF m 91 #[.val (.long q1), .second, .val (.int p2), .val (.int p3), .val (.int kk6), .val (.ref b4), .val (.int (F3 (FP.l2d (240000 : Int64)) FP.dconst1)), .val (.int (F3 (FP.l2d (240000 : Int64)) c3)), .val (.int (0 : Int32)), .unset, .unset] [])) _
    refine XS.aload X9.here hx rfl (hb hby at_91) rfl rfl ?_
    show Steps p.tables e below (T9.setTop (mkF m 93 #[.val (.long q1), .second, .val (.int p2), .val (.int p3), .val (.int kk6), .val (.ref b4), .val (.int (F3 (FP.l2d (240000 : Int64)) FP.dconst1)), .val (.int (F3 (FP.l2d (240000 : Int64)) c3)), .val (.int (0 : Int32)), .unset, .unset] [(.ref b4)])) _
    refine st10.trans ?_
    show Steps p.tables e below (T10.setTop (mkF m 96 #[.val (.long q1), .second, .val (.int p2), .val (.int p3), .val (.int kk6), .val (.ref b4), .val (.int (F3 (FP.l2d (240000 : Int64)) FP.dconst1)), .val (.int (F3 (FP.l2d (240000 : Int64)) c3)), .val (.int (0 : Int32)), .unset, .unset] [(.int (F3 w3 c3))])) _
    refine XS.istore X10.here hx rfl (hb hby at_96) rfl (l' := #[.val (.long q1), .second, .val (.int p2), .val (.int p3), .val (.int kk6), .val (.ref b4), .val (.int (F3 (FP.l2d (240000 : Int64)) FP.dconst1)), .val (.int (F3 (FP.l2d (240000 : Int64)) c3)), .val (.int (0 : Int32)), .val (.int (F3 w3 c3)), .unset]) rfl ?_
    show Steps p.tables e below (T10.setTop (mkF m 98 #[.val (.long q1), .second, .val (.int p2), .val (.int p3), .val (.int kk6), .val (.ref b4), .val (.int (F3 (FP.l2d (240000 : Int64)) FP.dconst1)), .val (.int (F3 (FP.l2d (240000 : Int64)) c3)), .val (.int (0 : Int32)), .val (.int (F3 w3 c3)), .unset] [])) _
    refine XS.lloadN X10.here hx rfl (hb hby at_98) rfl ?_
    show Steps p.tables e below (T10.setTop (mkF m 99 #[.val (.long q1), .second, .val (.int p2), .val (.int p3), .val (.int kk6), .val (.ref b4), .val (.int (F3 (FP.l2d (240000 : Int64)) FP.dconst1)), .val (.int (F3 (FP.l2d (240000 : Int64)) c3)), .val (.int (0 : Int32)), .val (.int (F3 w3 c3)), .unset] [(.long q1)])) _
    refine X10.ldc2Long hx hown (mvT hZ (hw _ (List.mem_of_getElem? (i := 33) rfl))) (g := (mkF m 99 #[.val (.long q1), .second, .val (.int p2), .val (.int p3), .val (.int kk6), .val (.ref b4), .val (.int (F3 (FP.l2d (240000 : Int64)) FP.dconst1)), .val (.int (F3 (FP.l2d (240000 : Int64)) c3)), .val (.int (0 : Int32)), .val (.int (F3 w3 c3)), .unset] [(.long q1)])) rfl (hb hby at_99) _ ?_
    show Steps p.tables e below (T10.setTop (mkF m 102 #[.val (.long q1), .second, .val (.int p2), .val (.int p3), .val (.int kk6), .val (.ref b4), .val (.int (F3 (FP.l2d (240000 : Int64)) FP.dconst1)), .val (.int (F3 (FP.l2d (240000 : Int64)) c3)), .val (.int (0 : Int32)), .val (.int (F3 w3 c3)), .unset] [(.long (-1440000 : Int64)), (.long q1)])) _
    refine XS.lcmp X10.here hx rfl (hb hby at_102) rfl ?_
    show Steps p.tables e below (T10.setTop (mkF m 103 #[.val (.long q1), .second, .val (.int p2), .val (.int p3), .val (.int kk6), .val (.ref b4), .val (.int (F3 (FP.l2d (240000 : Int64)) FP.dconst1)), .val (.int (F3 (FP.l2d (240000 : Int64)) c3)), .val (.int (0 : Int32)), .val (.int (F3 w3 c3)), .unset] [(.int (lcmpW q1 (-1440000 : Int64)))])) _
    refine XS.ifNo X10.here hx rfl (hb hby at_103) rfl ((if0 _ _).trans (tlt hc103).2.1) ?_
    show Steps p.tables e below (T10.setTop (mkF m 106 #[.val (.long q1), .second, .val (.int p2), .val (.int p3), .val (.int kk6), .val (.ref b4), .val (.int (F3 (FP.l2d (240000 : Int64)) FP.dconst1)), .val (.int (F3 (FP.l2d (240000 : Int64)) c3)), .val (.int (0 : Int32)), .val (.int (F3 w3 c3)), .unset] [])) _
    refine XS.iload X10.here hx rfl (hb hby at_106) rfl ?_
    show Steps p.tables e below (T10.setTop (mkF m 108 #[.val (.long q1), .second, .val (.int p2), .val (.int p3), .val (.int kk6), .val (.ref b4), .val (.int (F3 (FP.l2d (240000 : Int64)) FP.dconst1)), .val (.int (F3 (FP.l2d (240000 : Int64)) c3)), .val (.int (0 : Int32)), .val (.int (F3 w3 c3)), .unset] [(.int kk6)])) _
    refine XS.iconst X10.here hx rfl (hb hby at_108) ?_
    show Steps p.tables e below (T10.setTop (mkF m 109 #[.val (.long q1), .second, .val (.int p2), .val (.int p3), .val (.int kk6), .val (.ref b4), .val (.int (F3 (FP.l2d (240000 : Int64)) FP.dconst1)), .val (.int (F3 (FP.l2d (240000 : Int64)) c3)), .val (.int (0 : Int32)), .val (.int (F3 w3 c3)), .unset] [(.int (5 : Int32)), (.int kk6)])) _
    refine XS.icmpNo X10.here hx rfl (hb hby at_109) rfl (tlt hc109).2.1 ?_
    show Steps p.tables e below (T10.setTop (mkF m 112 #[.val (.long q1), .second, .val (.int p2), .val (.int p3), .val (.int kk6), .val (.ref b4), .val (.int (F3 (FP.l2d (240000 : Int64)) FP.dconst1)), .val (.int (F3 (FP.l2d (240000 : Int64)) c3)), .val (.int (0 : Int32)), .val (.int (F3 w3 c3)), .unset] [])) _
    refine XS.iconst X10.here hx rfl (hb hby at_112) ?_
    show Steps p.tables e below (T10.setTop (mkF m 113 #[.val (.long q1), .second, .val (.int p2), .val (.int p3), .val (.int kk6), .val (.ref b4), .val (.int (F3 (FP.l2d (240000 : Int64)) FP.dconst1)), .val (.int (F3 (FP.l2d (240000 : Int64)) c3)), .val (.int (0 : Int32)), .val (.int (F3 w3 c3)), .unset] [(.int (1 : Int32))])) _
    refine XS.goto X10.here hx rfl (pc0 := 113) (pc' := 117) rfl (hb hby at_113) (by decide) (by decide) ?_
    show Steps p.tables e below (T10.setTop (mkF m 117 #[.val (.long q1), .second, .val (.int p2), .val (.int p3), .val (.int kk6), .val (.ref b4), .val (.int (F3 (FP.l2d (240000 : Int64)) FP.dconst1)), .val (.int (F3 (FP.l2d (240000 : Int64)) c3)), .val (.int (0 : Int32)), .val (.int (F3 w3 c3)), .unset] [(.int (1 : Int32))])) _
    refine XS.istore X10.here hx rfl (hb hby at_117) rfl (l' := #[.val (.long q1), .second, .val (.int p2), .val (.int p3), .val (.int kk6), .val (.ref b4), .val (.int (F3 (FP.l2d (240000 : Int64)) FP.dconst1)), .val (.int (F3 (FP.l2d (240000 : Int64)) c3)), .val (.int (0 : Int32)), .val (.int (F3 w3 c3)), .val (.int (1 : Int32))]) rfl ?_
    show Steps p.tables e below (T10.setTop (mkF m 119 #[.val (.long q1), .second, .val (.int p2), .val (.int p3), .val (.int kk6), .val (.ref b4), .val (.int (F3 (FP.l2d (240000 : Int64)) FP.dconst1)), .val (.int (F3 (FP.l2d (240000 : Int64)) c3)), .val (.int (0 : Int32)), .val (.int (F3 w3 c3)), .val (.int (1 : Int32))] [])) _
    refine XS.iload X10.here hx rfl (hb hby at_119) rfl ?_
    show Steps p.tables e below (T10.setTop (mkF m 121 #[.val (.long q1), .second, .val (.int p2), .val (.int p3), .val (.int kk6), .val (.ref b4), .val (.int (F3 (FP.l2d (240000 : Int64)) FP.dconst1)), .val (.int (F3 (FP.l2d (240000 : Int64)) c3)), .val (.int (0 : Int32)), .val (.int (F3 w3 c3)), .val (.int (1 : Int32))] [(.int (F3 (FP.l2d (240000 : Int64)) FP.dconst1))])) _
    refine XS.ifNo X10.here hx rfl (hb hby at_121) rfl ((if0 _ _).trans (teq hq1).2) ?_
    show Steps p.tables e below (T10.setTop (mkF m 124 #[.val (.long q1), .second, .val (.int p2), .val (.int p3), .val (.int kk6), .val (.ref b4), .val (.int (F3 (FP.l2d (240000 : Int64)) FP.dconst1)), .val (.int (F3 (FP.l2d (240000 : Int64)) c3)), .val (.int (0 : Int32)), .val (.int (F3 w3 c3)), .val (.int (1 : Int32))] [])) _
    refine XS.iload X10.here hx rfl (hb hby at_124) rfl ?_
    show Steps p.tables e below (T10.setTop (mkF m 126 #[.val (.long q1), .second, .val (.int p2), .val (.int p3), .val (.int kk6), .val (.ref b4), .val (.int (F3 (FP.l2d (240000 : Int64)) FP.dconst1)), .val (.int (F3 (FP.l2d (240000 : Int64)) c3)), .val (.int (0 : Int32)), .val (.int (F3 w3 c3)), .val (.int (1 : Int32))] [(.int (F3 (FP.l2d (240000 : Int64)) c3))])) _
    refine XS.iload X10.here hx rfl (hb hby at_126) rfl ?_
    show Steps p.tables e below (T10.setTop (mkF m 128 #[.val (.long q1), .second, .val (.int p2), .val (.int p3), .val (.int kk6), .val (.ref b4), .val (.int (F3 (FP.l2d (240000 : Int64)) FP.dconst1)), .val (.int (F3 (FP.l2d (240000 : Int64)) c3)), .val (.int (0 : Int32)), .val (.int (F3 w3 c3)), .val (.int (1 : Int32))] [(.int (0 : Int32)), (.int (F3 (FP.l2d (240000 : Int64)) c3))])) _
    refine XS.icmpNo X10.here hx rfl (hb hby at_128) rfl (teq hq2).2 ?_
    show Steps p.tables e below (T10.setTop (mkF m 131 #[.val (.long q1), .second, .val (.int p2), .val (.int p3), .val (.int kk6), .val (.ref b4), .val (.int (F3 (FP.l2d (240000 : Int64)) FP.dconst1)), .val (.int (F3 (FP.l2d (240000 : Int64)) c3)), .val (.int (0 : Int32)), .val (.int (F3 w3 c3)), .val (.int (1 : Int32))] [])) _
    refine XS.iload X10.here hx rfl (hb hby at_131) rfl ?_
    show Steps p.tables e below (T10.setTop (mkF m 133 #[.val (.long q1), .second, .val (.int p2), .val (.int p3), .val (.int kk6), .val (.ref b4), .val (.int (F3 (FP.l2d (240000 : Int64)) FP.dconst1)), .val (.int (F3 (FP.l2d (240000 : Int64)) c3)), .val (.int (0 : Int32)), .val (.int (F3 w3 c3)), .val (.int (1 : Int32))] [(.int (F3 w3 c3))])) _
    refine XS.iload X10.here hx rfl (hb hby at_133) rfl ?_
    show Steps p.tables e below (T10.setTop (mkF m 135 #[.val (.long q1), .second, .val (.int p2), .val (.int p3), .val (.int kk6), .val (.ref b4), .val (.int (F3 (FP.l2d (240000 : Int64)) FP.dconst1)), .val (.int (F3 (FP.l2d (240000 : Int64)) c3)), .val (.int (0 : Int32)), .val (.int (F3 w3 c3)), .val (.int (1 : Int32))] [(.int (1 : Int32)), (.int (F3 w3 c3))])) _
    refine XS.icmpNo X10.here hx rfl (hb hby at_135) rfl (teq hq3).2 ?_
    show Steps p.tables e below (T10.setTop (mkF m 138 #[.val (.long q1), .second, .val (.int p2), .val (.int p3), .val (.int kk6), .val (.ref b4), .val (.int (F3 (FP.l2d (240000 : Int64)) FP.dconst1)), .val (.int (F3 (FP.l2d (240000 : Int64)) c3)), .val (.int (0 : Int32)), .val (.int (F3 w3 c3)), .val (.int (1 : Int32))] [])) _
    refine XS.iconst X10.here hx rfl (hb hby at_138) ?_
    show Steps p.tables e below (T10.setTop (mkF m 139 #[.val (.long q1), .second, .val (.int p2), .val (.int p3), .val (.int kk6), .val (.ref b4), .val (.int (F3 (FP.l2d (240000 : Int64)) FP.dconst1)), .val (.int (F3 (FP.l2d (240000 : Int64)) c3)), .val (.int (0 : Int32)), .val (.int (F3 w3 c3)), .val (.int (1 : Int32))] [(.int (1 : Int32))])) _
    refine XS.goto X10.here hx rfl (pc0 := 139) (pc' := 143) rfl (hb hby at_139) (by decide) (by decide) ?_
    show Steps p.tables e below (T10.setTop (mkF m 143 #[.val (.long q1), .second, .val (.int p2), .val (.int p3), .val (.int kk6), .val (.ref b4), .val (.int (F3 (FP.l2d (240000 : Int64)) FP.dconst1)), .val (.int (F3 (FP.l2d (240000 : Int64)) c3)), .val (.int (0 : Int32)), .val (.int (F3 w3 c3)), .val (.int (1 : Int32))] [(.int (1 : Int32))])) _
    exact retN X10 hx (t := .boolean) Bd.returns (by simp) (hb hby at_143) hr
  · show QL n0 _ T10.heap _
    exact ⟨rfl, N10⟩
set_option maxRecDepth 65536 in
set_option maxHeartbeats 40000000 in
theorem rm0_tftfff (l : Launch) (Z : State) (a0 : Array Value) (hw : ∀ d ∈ tables_1, d.before a0 Z = true) (ws : List Jvm.Cond) (q1 : Int64) (p2 : Int32) (p3 : Int32) (kk6 : Int32) (w1 : UInt64) (w2 : UInt64) (w3 : UInt64) (c1 : UInt64) (c2 : UInt64) (c3 : UInt64) (h0 : Heap) (n0 : Nat) (Z0 : n0 ≤ h0.size) (hk6 : ((1 : Int32) + (p2 &&& (1073741823 : Int32))) = kk6) (hw1 : (FP.dsub (FP.l2d (F5 q1 (240000 : Int64))) (FP.l2d (240000 : Int64))) = w1) (hn1 : Jvm.Free.Fl.NoNaN64 (FP.dsub (FP.l2d (F5 q1 (240000 : Int64))) (FP.l2d (240000 : Int64)))) (hw2 : (FP.ddiv w1 (4620693217682128896 : UInt64)) = w2) (hn2 : Jvm.Free.Fl.NoNaN64 (FP.ddiv w1 (4620693217682128896 : UInt64))) (hw3 : (FP.dadd (FP.l2d (240000 : Int64)) w2) = w3) (hn3 : Jvm.Free.Fl.NoNaN64 (FP.dadd (FP.l2d (240000 : Int64)) w2)) (hx1 : (FP.dsub (FP.i2d kk6) FP.dconst1) = c1) (hm1 : Jvm.Free.Fl.NoNaN64 (FP.dsub (FP.i2d kk6) FP.dconst1)) (hx2 : (FP.ddiv c1 (4620693217682128896 : UInt64)) = c2) (hm2 : Jvm.Free.Fl.NoNaN64 (FP.ddiv c1 (4620693217682128896 : UInt64))) (hx3 : (FP.dadd FP.dconst1 c2) = c3) (hm3 : Jvm.Free.Fl.NoNaN64 (FP.dadd FP.dconst1 c2)) (S0 : Sta Z h0 "com/example/tanager/tanager/Polling" "LONGEST_WAIT_COUNTED" "J" (.long (240000 : Int64))) (S0' : Sta Z h0 "com/example/tanager/tanager/Polling" "NANOS" "J" (.long (30000 : Int64))) (hc27 : (p3 &&& (1 : Int32)) = (0 : Int32)) (hc103 : (lcmpW q1 (-1440000 : Int64)) < (0 : Int32)) (hc109 : ¬ (kk6 < (5 : Int32))) (hq1 : (F3 (FP.l2d (240000 : Int64)) FP.dconst1) = (0 : Int32)) (hq2 : (F3 (FP.l2d (240000 : Int64)) c3) = (0 : Int32)) (hq3 : (F3 w3 c3) = (0 : Int32)) :
    MetFree l x (head1 (Jvm.Cond.code x code maxLocals ret :: ws) room_1) (fun a U => a = #[(.long q1), (.int p2), (.int p3)] ∧ Z.Warmed39 U.vm ∧ U.heap = h0) (fun _ _ _ _ _ => True) (fun _ U o U' => ∃ v L, o = .returned v ∧ QL n0 v U'.heap L ∧ FrameEnd U o U' L room_1.cells room_1.slots) := by
  refine MetFree.of_bodySF (plainFor_of_name pn_0) hisR ?_
  intro p e s m args below meth c s₁ Bd hml0 hP hK
  obtain ⟨rfl, hZ, hh⟩ := hP
  have hx := Bd.exec
  have hby := Bd.bytes
  have hml : c.maxLocals = 11 := hml0
  have hown : s.vm.findClass "com/example/tanager/tanager/PollingWorthItPinLaw" = some m.cls := findClass_of_methodNamed Bd.named
  have hnm := (name_of_methodNamed Bd.named Bd.method).1
  have X0 : Stand p l e room_1 s m #[(.long q1), (.int p2), (.int p3)] below meth c s₁ [] 0 0 := Stand.of_body Bd
  have e0 : s₁.heap = h0 := by rw [← hh, Bd.state]; rfl
  have N0 := Fr.nil n0
  have pre0 : ∀ t, Steps p.tables e below (s₁.setTop (mkF m 0 #[.val (.long q1), .second, .val (.int p2), .val (.int p3), .unset, .unset, .unset, .unset, .unset, .unset, .unset] [])) t → Steps p.tables e below (s₁.setTop (entryFrame m #[(.long q1), (.int p2), (.int p3)] maxLocals)) t := fun t k => castTop (ef_0 m q1 p2 p3) k
  obtain ⟨T4, h4, X4, e4, E4, A4, D4, -, st4⟩ := newO X0 hx hZ hown (hw _ (List.mem_of_getElem? (i := 1) rfl)) (hw _ (List.mem_of_getElem? (i := 2) rfl)) (hw _ (List.mem_of_getElem? (i := 3) rfl)) e0 (g := (mkF m 8 #[.val (.long q1), .second, .val (.int p2), .val (.int p3), .val (.int kk6), .unset, .unset, .unset, .unset, .unset, .unset] [])) rfl (hb hby at_8) (by decide) (by decide)
  obtain ⟨b4, g4⟩ : ∃ z, z = h0.size := ⟨_, rfl⟩
  rw [← g4] at A4 D4 st4
  have F_recentWaitNanos_b4 : Fld Z h4 b4 "com/example/tanager/tanager/Polling" "recentWaitNanos" "D" (.double (0 : UInt64)) := D4 (Or.inl (hw _ (List.mem_of_getElem? (i := 13) rfl))) (ty := .double) (by decide)
  have F_recentCalls_b4 : Fld Z h4 b4 "com/example/tanager/tanager/Polling" "recentCalls" "D" (.double (0 : UInt64)) := D4 (Or.inl (hw _ (List.mem_of_getElem? (i := 15) rfl))) (ty := .double) (by decide)
  have E_b4 := A4
  have g_b4 : n0 ≤ b4 := Nat.le_trans Z0 (Nat.le_of_eq g4.symm)
  have sz_b4 : h0.size ≤ b4 := (Nat.le_trans (Keep.refl h0 []).1 (Nat.le_of_eq g4.symm))
  have K4 : Keep h0 h4 [] := (Keep.refl h0 []).ext E4
  obtain ⟨_, _, ⟨T5, L5, k5, n5⟩, -, X5, ⟨Lc5, hQ5, l5, y5, z5⟩, st5⟩ := X4.specialBack hx (y := (⟨"com/example/tanager/tanager/Polling", "<init>", "()V"⟩ : MethodName)) rfl hown (mvT hZ (hw _ (List.mem_of_getElem? (i := 4) rfl))) (mvT hZ (hw _ (List.mem_of_getElem? (i := 5) rfl))) (mvT hZ (hw _ (List.mem_of_getElem? (i := 6) rfl))) (by decide) (backOf (W := 1) (rm1 l Z a0 hw [] b4 (240000 : Int64) _ _ h4 n0 (Nat.le_trans Z0 E4.1) (S0.ext E4) E_b4 F_recentWaitNanos_b4 g_b4 F_recentCalls_b4) hZ (hw _ (List.mem_of_getElem? (i := 6) rfl)) (hw _ (List.mem_of_getElem? (i := 3) rfl)) (by decide) (by decide)) (g := (mkF m 12 #[.val (.long q1), .second, .val (.int p2), .val (.int p3), .val (.int kk6), .unset, .unset, .unset, .unset, .unset, .unset] [(.ref b4), (.ref b4)])) rfl (by rw [hml]; rfl) (Steps.refl _) (a := b4) (argsL := []) (rest := [(.ref b4)]) (lenOf pd_0_0 rfl) rfl (by show 2 * 0 + _ ≤ _; exact Nat.le_of_eq rfl) (hb hby at_12) (fun _ _ => ⟨rfl, e4, (by decide : 1 + 0 ≤ _), (by decide : 2 + 0 ≤ _)⟩)
  dsimp only [Pt.U, Pt.locs, Pt.cells, Pt.slots] at X5 l5 y5 z5 st5 hQ5
  subst l5 y5 z5
  obtain ⟨rfl, N5q, K5c, E5, Fw5, Fc5⟩ := hQ5
  have Z5 : n0 ≤ T5.heap.size := Nat.le_trans (Nat.le_trans Z0 E4.1) K5c.1
  have S5 := own_sta_keep (S0.ext E4) K5c E_b4
  have S5' := own_sta_keep (S0'.ext E4) K5c E_b4
  have N5 := Fr.app N0 N5q
  obtain ⟨cq6, kq6, q6a, q6b, q6c⟩ := isOf hZ rfl (E_b4.keep K5c)
  obtain ⟨_, _, ⟨T6, L6, k6, n6⟩, -, X6, ⟨Lc6, hQ6, l6, y6, z6⟩, st6⟩ := X5.virtualBack hx (y := (⟨"com/example/tanager/tanager/Polling", "worthIt", "()Z"⟩ : MethodName)) (z := (⟨"com/example/tanager/tanager/Polling", "worthIt", "()Z"⟩ : MethodName)) hown (mvT hZ (hw _ (List.mem_of_getElem? (i := 16) rfl))) (mvT hZ (hw _ (List.mem_of_getElem? (i := 17) rfl))) (notFace_of_selects (args := #[]) (mvT hZ (hw _ (List.mem_of_getElem? (i := 19) rfl)))) (mvT hZ (hw _ (List.mem_of_getElem? (i := 19) rfl))) (mvT hZ (hw _ (List.mem_of_getElem? (i := 18) rfl))) (by decide) (backOf (W := 0) (rm3 l Z a0 hw [] b4 (FP.l2d (240000 : Int64)) FP.dconst1 T5.heap n0 Z5 Fw5 S5' Fc5) hZ (hw _ (List.mem_of_getElem? (i := 20) rfl)) (hw _ (List.mem_of_getElem? (i := 3) rfl)) (by decide) (by decide)) q6a q6c (g := (mkF m 19 #[.val (.long q1), .second, .val (.int p2), .val (.int p3), .val (.int kk6), .val (.ref b4), .unset, .unset, .unset, .unset, .unset] [(.ref b4)])) rfl (by rw [hml]; rfl) (Steps.refl _) (argsL := []) (rest := []) (lenOf pd_0_1 rfl) rfl (by show 2 * 0 + _ ≤ _; exact Nat.le_of_eq rfl) (hb hby at_19) (fun _ _ => ⟨rfl, rfl, (by decide : 1 + 0 ≤ _), (by decide : 2 + 0 ≤ _)⟩)
  dsimp only [Pt.U, Pt.locs, Pt.cells, Pt.slots] at X6 l6 y6 z6 st6 hQ6
  subst l6 y6 z6
  obtain ⟨rfl, N6q, eh6⟩ := hQ6
  have K6c : Keep T5.heap T6.heap [] := by rw [eh6]; exact Keep.refl _ _
  have Z6 : n0 ≤ T6.heap.size := by rw [eh6]; exact Z5
  have E6 := E5.keep K6c
  have Fw6 := Fw5.keep K6c (by simp)
  have Fc6 := Fc5.keep K6c (by simp)
  have S6 : Sta Z T6.heap "com/example/tanager/tanager/Polling" "LONGEST_WAIT_COUNTED" "J" (.long (240000 : Int64)) := by rw [eh6]; exact S5
  have S6' : Sta Z T6.heap "com/example/tanager/tanager/Polling" "NANOS" "J" (.long (30000 : Int64)) := by rw [eh6]; exact S5'
  have N6 := Fr.app N5 N6q
  obtain ⟨cq7, kq7, q7a, q7b, q7c⟩ := isOf hZ rfl ((E_b4.keep K5c).keep K6c)
  obtain ⟨_, _, ⟨T7, L7, k7, n7⟩, -, X7, ⟨Lc7, hQ7, l7, y7, z7⟩, st7⟩ := X6.virtualBack hx (y := (⟨"com/example/tanager/tanager/Polling", "counted", "(I)V"⟩ : MethodName)) (z := (⟨"com/example/tanager/tanager/Polling", "counted", "(I)V"⟩ : MethodName)) hown (mvT hZ (hw _ (List.mem_of_getElem? (i := 34) rfl))) (mvT hZ (hw _ (List.mem_of_getElem? (i := 35) rfl))) (notFace_of_selects (args := #[]) (mvT hZ (hw _ (List.mem_of_getElem? (i := 37) rfl)))) (mvT hZ (hw _ (List.mem_of_getElem? (i := 37) rfl))) (mvT hZ (hw _ (List.mem_of_getElem? (i := 36) rfl))) (by decide) (backOf (W := 0) (rm6 l Z a0 hw [] b4 kk6 FP.dconst1 c1 c2 c3 (FP.l2d (240000 : Int64)) T6.heap n0 Z6 Fc6 E6 Fw6 g_b4 hx1 hm1 hx2 hm2 hx3 hm3) hZ (hw _ (List.mem_of_getElem? (i := 38) rfl)) (hw _ (List.mem_of_getElem? (i := 3) rfl)) (by decide) (by decide)) q7a q7c (g := (mkF m 72 #[.val (.long q1), .second, .val (.int p2), .val (.int p3), .val (.int kk6), .val (.ref b4), .val (.int (F3 (FP.l2d (240000 : Int64)) FP.dconst1)), .unset, .unset, .unset, .unset] [(.int kk6), (.ref b4)])) rfl (by rw [hml]; rfl) (Steps.refl _) (argsL := [(.int kk6)]) (rest := []) (lenOf pd_0_4 rfl) rfl (by show 2 * 0 + _ ≤ _; exact Nat.le_of_eq rfl) (hb hby at_72) (fun _ _ => ⟨rfl, rfl, (by decide : 1 + 0 ≤ _), (by decide : 2 + 0 ≤ _)⟩)
  dsimp only [Pt.U, Pt.locs, Pt.cells, Pt.slots] at X7 l7 y7 z7 st7 hQ7
  subst l7 y7 z7
  obtain ⟨rfl, N7q, K7c, E7, Fw7, Fc7⟩ := hQ7
  have Z7 : n0 ≤ T7.heap.size := Nat.le_trans Z6 K7c.1
  have S7 := own_sta_keep S6 K7c E6
  have S7' := own_sta_keep S6' K7c E6
  have N7 := Fr.app N6 N7q
  obtain ⟨cq8, kq8, q8a, q8b, q8c⟩ := isOf hZ rfl (((E_b4.keep K5c).keep K6c).keep K7c)
  obtain ⟨_, _, ⟨T8, L8, k8, n8⟩, -, X8, ⟨Lc8, hQ8, l8, y8, z8⟩, st8⟩ := X7.virtualBack hx (y := (⟨"com/example/tanager/tanager/Polling", "worthIt", "()Z"⟩ : MethodName)) (z := (⟨"com/example/tanager/tanager/Polling", "worthIt", "()Z"⟩ : MethodName)) hown (mvT hZ (hw _ (List.mem_of_getElem? (i := 16) rfl))) (mvT hZ (hw _ (List.mem_of_getElem? (i := 17) rfl))) (notFace_of_selects (args := #[]) (mvT hZ (hw _ (List.mem_of_getElem? (i := 19) rfl)))) (mvT hZ (hw _ (List.mem_of_getElem? (i := 19) rfl))) (mvT hZ (hw _ (List.mem_of_getElem? (i := 18) rfl))) (by decide) (backOf (W := 0) (rm3 l Z a0 hw [] b4 (FP.l2d (240000 : Int64)) c3 T7.heap n0 Z7 Fw7 S7' Fc7) hZ (hw _ (List.mem_of_getElem? (i := 20) rfl)) (hw _ (List.mem_of_getElem? (i := 3) rfl)) (by decide) (by decide)) q8a q8c (g := (mkF m 77 #[.val (.long q1), .second, .val (.int p2), .val (.int p3), .val (.int kk6), .val (.ref b4), .val (.int (F3 (FP.l2d (240000 : Int64)) FP.dconst1)), .unset, .unset, .unset, .unset] [(.ref b4)])) rfl (by rw [hml]; rfl) (Steps.refl _) (argsL := []) (rest := []) (lenOf pd_0_1 rfl) rfl (by show 2 * 0 + _ ≤ _; exact Nat.le_of_eq rfl) (hb hby at_77) (fun _ _ => ⟨rfl, rfl, (by decide : 1 + 0 ≤ _), (by decide : 2 + 0 ≤ _)⟩)
  dsimp only [Pt.U, Pt.locs, Pt.cells, Pt.slots] at X8 l8 y8 z8 st8 hQ8
  subst l8 y8 z8
  obtain ⟨rfl, N8q, eh8⟩ := hQ8
  have K8c : Keep T7.heap T8.heap [] := by rw [eh8]; exact Keep.refl _ _
  have Z8 : n0 ≤ T8.heap.size := by rw [eh8]; exact Z7
  have E8 := E7.keep K8c
  have Fw8 := Fw7.keep K8c (by simp)
  have Fc8 := Fc7.keep K8c (by simp)
  have S8 : Sta Z T8.heap "com/example/tanager/tanager/Polling" "LONGEST_WAIT_COUNTED" "J" (.long (240000 : Int64)) := by rw [eh8]; exact S7
  have S8' : Sta Z T8.heap "com/example/tanager/tanager/Polling" "NANOS" "J" (.long (30000 : Int64)) := by rw [eh8]; exact S7'
  have N8 := Fr.app N7 N8q
  obtain ⟨cq9, kq9, q9a, q9b, q9c⟩ := isOf hZ rfl ((((E_b4.keep K5c).keep K6c).keep K7c).keep K8c)
  obtain ⟨_, _, ⟨T9, L9, k9, n9⟩, -, X9, ⟨Lc9, hQ9, l9, y9, z9⟩, st9⟩ := X8.virtualBack hx (y := (⟨"com/example/tanager/tanager/Polling", "waited", "(J)V"⟩ : MethodName)) (z := (⟨"com/example/tanager/tanager/Polling", "waited", "(J)V"⟩ : MethodName)) hown (mvT hZ (hw _ (List.mem_of_getElem? (i := 23) rfl))) (mvT hZ (hw _ (List.mem_of_getElem? (i := 24) rfl))) (notFace_of_selects (args := #[]) (mvT hZ (hw _ (List.mem_of_getElem? (i := 26) rfl)))) (mvT hZ (hw _ (List.mem_of_getElem? (i := 26) rfl))) (mvT hZ (hw _ (List.mem_of_getElem? (i := 25) rfl))) (by decide) (backOf (W := 0) (rm4 l Z a0 hw [] b4 q1 (FP.l2d (240000 : Int64)) w1 w2 w3 c3 T8.heap n0 Z8 Fw8 S8 E8 Fc8 g_b4 hw1 hn1 hw2 hn2 hw3 hn3) hZ (hw _ (List.mem_of_getElem? (i := 27) rfl)) (hw _ (List.mem_of_getElem? (i := 3) rfl)) (by decide) (by decide)) q9a q9c (g := (mkF m 88 #[.val (.long q1), .second, .val (.int p2), .val (.int p3), .val (.int kk6), .val (.ref b4), .val (.int (F3 (FP.l2d (240000 : Int64)) FP.dconst1)), .val (.int (F3 (FP.l2d (240000 : Int64)) c3)), .val (.int (0 : Int32)), .unset, .unset] [(.long q1), (.ref b4)])) rfl (by rw [hml]; rfl) (Steps.refl _) (argsL := [(.long q1)]) (rest := []) (lenOf pd_0_2 rfl) rfl (by show 2 * 0 + _ ≤ _; exact Nat.le_of_eq rfl) (hb hby at_88) (fun _ _ => ⟨rfl, rfl, (by decide : 1 + 0 ≤ _), (by decide : 2 + 0 ≤ _)⟩)
  dsimp only [Pt.U, Pt.locs, Pt.cells, Pt.slots] at X9 l9 y9 z9 st9 hQ9
  subst l9 y9 z9
  obtain ⟨rfl, N9q, K9c, E9, Fw9, Fc9⟩ := hQ9
  have Z9 : n0 ≤ T9.heap.size := Nat.le_trans Z8 K9c.1
  have S9 := own_sta_keep S8 K9c E8
  have S9' := own_sta_keep S8' K9c E8
  have N9 := Fr.app N8 N9q
  obtain ⟨cq10, kq10, q10a, q10b, q10c⟩ := isOf hZ rfl (((((E_b4.keep K5c).keep K6c).keep K7c).keep K8c).keep K9c)
  obtain ⟨_, _, ⟨T10, L10, k10, n10⟩, -, X10, ⟨Lc10, hQ10, l10, y10, z10⟩, st10⟩ := X9.virtualBack hx (y := (⟨"com/example/tanager/tanager/Polling", "worthIt", "()Z"⟩ : MethodName)) (z := (⟨"com/example/tanager/tanager/Polling", "worthIt", "()Z"⟩ : MethodName)) hown (mvT hZ (hw _ (List.mem_of_getElem? (i := 16) rfl))) (mvT hZ (hw _ (List.mem_of_getElem? (i := 17) rfl))) (notFace_of_selects (args := #[]) (mvT hZ (hw _ (List.mem_of_getElem? (i := 19) rfl)))) (mvT hZ (hw _ (List.mem_of_getElem? (i := 19) rfl))) (mvT hZ (hw _ (List.mem_of_getElem? (i := 18) rfl))) (by decide) (backOf (W := 0) (rm3 l Z a0 hw [] b4 w3 c3 T9.heap n0 Z9 Fw9 S9' Fc9) hZ (hw _ (List.mem_of_getElem? (i := 20) rfl)) (hw _ (List.mem_of_getElem? (i := 3) rfl)) (by decide) (by decide)) q10a q10c (g := (mkF m 93 #[.val (.long q1), .second, .val (.int p2), .val (.int p3), .val (.int kk6), .val (.ref b4), .val (.int (F3 (FP.l2d (240000 : Int64)) FP.dconst1)), .val (.int (F3 (FP.l2d (240000 : Int64)) c3)), .val (.int (0 : Int32)), .unset, .unset] [(.ref b4)])) rfl (by rw [hml]; rfl) (Steps.refl _) (argsL := []) (rest := []) (lenOf pd_0_1 rfl) rfl (by show 2 * 0 + _ ≤ _; exact Nat.le_of_eq rfl) (hb hby at_93) (fun _ _ => ⟨rfl, rfl, (by decide : 1 + 0 ≤ _), (by decide : 2 + 0 ≤ _)⟩)
  dsimp only [Pt.U, Pt.locs, Pt.cells, Pt.slots] at X10 l10 y10 z10 st10 hQ10
  subst l10 y10 z10
  obtain ⟨rfl, N10q, eh10⟩ := hQ10
  have N10 := Fr.app N9 N10q
  obtain ⟨fs, hr, hrun, hended, hW, hsame⟩ := X10.leave (v := some (.int (1 : Int32))) (fun h => by rw [Bd.returns] at h; cases h)
  refine ⟨_, _, pre0 _ ?_, hrun, hended, _, _, rfl, ?_, ⟨_, rfl⟩, hW, hsame.mono (by decide) (by decide)⟩
  · show Steps p.tables e below (s₁.setTop (mkF m 0 #[.val (.long q1), .second, .val (.int p2), .val (.int p3), .unset, .unset, .unset, .unset, .unset, .unset, .unset] [])) _
    refine XS.iconst X0.here hx rfl (hb hby at_0) ?_
    show Steps p.tables e below (s₁.setTop (mkF m 1 #[.val (.long q1), .second, .val (.int p2), .val (.int p3), .unset, .unset, .unset, .unset, .unset, .unset, .unset] [(.int (1 : Int32))])) _
    refine XS.iloadN X0.here hx rfl (hb hby at_1) rfl ?_
    show Steps p.tables e below (s₁.setTop (mkF m 2 #[.val (.long q1), .second, .val (.int p2), .val (.int p3), .unset, .unset, .unset, .unset, .unset, .unset, .unset] [(.int p2), (.int (1 : Int32))])) _
    refine X0.ldcInt hx hown (mvT hZ (hw _ (List.mem_of_getElem? (i := 0) rfl))) (g := (mkF m 2 #[.val (.long q1), .second, .val (.int p2), .val (.int p3), .unset, .unset, .unset, .unset, .unset, .unset, .unset] [(.int p2), (.int (1 : Int32))])) rfl (hb hby at_2) _ ?_
    show Steps p.tables e below (s₁.setTop (mkF m 4 #[.val (.long q1), .second, .val (.int p2), .val (.int p3), .unset, .unset, .unset, .unset, .unset, .unset, .unset] [(.int (1073741823 : Int32)), (.int p2), (.int (1 : Int32))])) _
    refine XS.iand X0.here hx rfl (hb hby at_4) rfl ?_
    show Steps p.tables e below (s₁.setTop (mkF m 5 #[.val (.long q1), .second, .val (.int p2), .val (.int p3), .unset, .unset, .unset, .unset, .unset, .unset, .unset] [(.int (p2 &&& (1073741823 : Int32))), (.int (1 : Int32))])) _
    refine XS.iadd X0.here hx rfl (hb hby at_5) rfl ?_
    show Steps p.tables e below (s₁.setTop (mkF m 6 #[.val (.long q1), .second, .val (.int p2), .val (.int p3), .unset, .unset, .unset, .unset, .unset, .unset, .unset] [(.int ((1 : Int32) + (p2 &&& (1073741823 : Int32))))])) _
    refine XS.istore X0.here hx rfl (hb hby at_6) rfl (l' := #[.val (.long q1), .second, .val (.int p2), .val (.int p3), .val (.int ((1 : Int32) + (p2 &&& (1073741823 : Int32)))), .unset, .unset, .unset, .unset, .unset, .unset]) rfl ?_
    show Steps p.tables e below (s₁.setTop (mkF m 8 #[.val (.long q1), .second, .val (.int p2), .val (.int p3), .val (.int ((1 : Int32) + (p2 &&& (1073741823 : Int32)))), .unset, .unset, .unset, .unset, .unset, .unset] [])) _
    rw [hk6]
    show Steps p.tables e below (s₁.setTop (mkF m 8 #[.val (.long q1), .second, .val (.int p2), .val (.int p3), .val (.int kk6), .unset, .unset, .unset, .unset, .unset, .unset] [])) _
    refine st4 _ ?_
    show Steps p.tables e below (T4.setTop (mkF m 11 #[.val (.long q1), .second, .val (.int p2), .val (.int p3), .val (.int kk6), .unset, .unset, .unset, .unset, .unset, .unset] [(.ref b4)])) _
    refine XS.dup X4.here hx rfl (hb hby at_11) rfl rfl ?_
    show Steps p.tables e below (T4.setTop (mkF m 12 #[.val (.long q1), .second, .val (.int p2), .val (.int p3), .val (.int kk6), .unset, .unset, .unset, .unset, .unset, .unset] [(.ref b4), (.ref b4)])) _
    refine st5.trans ?_
    show Steps p.tables e below (T5.setTop (mkF m 15 #[.val (.long q1), .second, .val (.int p2), .val (.int p3), .val (.int kk6), .unset, .unset, .unset, .unset, .unset, .unset] [(.ref b4)])) _
    refine XS.astore X5.here hx rfl (hb hby at_15) rfl rfl (l' := #[.val (.long q1), .second, .val (.int p2), .val (.int p3), .val (.int kk6), .val (.ref b4), .unset, .unset, .unset, .unset, .unset]) rfl ?_
    show Steps p.tables e below (T5.setTop (mkF m 17 #[.val (.long q1), .second, .val (.int p2), .val (.int p3), .val (.int kk6), .val (.ref b4), .unset, .unset, .unset, .unset, .unset] [])) _
    refine XS.aload X5.here hx rfl (hb hby at_17) rfl rfl ?_
    show Steps p.tables e below (T5.setTop (mkF m 19 #[.val (.long q1), .second, .val (.int p2), .val (.int p3), .val (.int kk6), .val (.ref b4), .unset, .unset, .unset, .unset, .unset] [(.ref b4)])) _
    refine st6.trans ?_
    show Steps p.tables e below (T6.setTop (mkF m 22 #[.val (.long q1), .second, .val (.int p2), .val (.int p3), .val (.int kk6), .val (.ref b4), .unset, .unset, .unset, .unset, .unset] [(.int (F3 (FP.l2d (240000 : Int64)) FP.dconst1))])) _
    refine XS.istore X6.here hx rfl (hb hby at_22) rfl (l' := #[.val (.long q1), .second, .val (.int p2), .val (.int p3), .val (.int kk6), .val (.ref b4), .val (.int (F3 (FP.l2d (240000 : Int64)) FP.dconst1)), .unset, .unset, .unset, .unset]) rfl ?_
    show Steps p.tables e below (T6.setTop (mkF m 24 #[.val (.long q1), .second, .val (.int p2), .val (.int p3), .val (.int kk6), .val (.ref b4), .val (.int (F3 (FP.l2d (240000 : Int64)) FP.dconst1)), .unset, .unset, .unset, .unset] [])) _
    refine XS.iloadN X6.here hx rfl (hb hby at_24) rfl ?_
    show Steps p.tables e below (T6.setTop (mkF m 25 #[.val (.long q1), .second, .val (.int p2), .val (.int p3), .val (.int kk6), .val (.ref b4), .val (.int (F3 (FP.l2d (240000 : Int64)) FP.dconst1)), .unset, .unset, .unset, .unset] [(.int p3)])) _
    refine XS.iconst X6.here hx rfl (hb hby at_25) ?_
    show Steps p.tables e below (T6.setTop (mkF m 26 #[.val (.long q1), .second, .val (.int p2), .val (.int p3), .val (.int kk6), .val (.ref b4), .val (.int (F3 (FP.l2d (240000 : Int64)) FP.dconst1)), .unset, .unset, .unset, .unset] [(.int (1 : Int32)), (.int p3)])) _
    refine XS.iand X6.here hx rfl (hb hby at_26) rfl ?_
    show Steps p.tables e below (T6.setTop (mkF m 27 #[.val (.long q1), .second, .val (.int p2), .val (.int p3), .val (.int kk6), .val (.ref b4), .val (.int (F3 (FP.l2d (240000 : Int64)) FP.dconst1)), .unset, .unset, .unset, .unset] [(.int (p3 &&& (1 : Int32)))])) _
    refine XS.ifYes X6.here hx rfl (pc0 := 27) (pc' := 68) rfl (hb hby at_27) rfl ((if0 _ _).trans (teq hc27).1) (by decide) (by decide) ?_
    show Steps p.tables e below (T6.setTop (mkF m 68 #[.val (.long q1), .second, .val (.int p2), .val (.int p3), .val (.int kk6), .val (.ref b4), .val (.int (F3 (FP.l2d (240000 : Int64)) FP.dconst1)), .unset, .unset, .unset, .unset] [])) _
    refine XS.aload X6.here hx rfl (hb hby at_68) rfl rfl ?_
    show Steps p.tables e below (T6.setTop (mkF m 70 #[.val (.long q1), .second, .val (.int p2), .val (.int p3), .val (.int kk6), .val (.ref b4), .val (.int (F3 (FP.l2d (240000 : Int64)) FP.dconst1)), .unset, .unset, .unset, .unset] [(.ref b4)])) _
    refine XS.iload X6.here hx rfl (hb hby at_70) rfl ?_
    show Steps p.tables e below (T6.setTop (mkF m 72 #[.val (.long q1), .second, .val (.int p2), .val (.int p3), .val (.int kk6), .val (.ref b4), .val (.int (F3 (FP.l2d (240000 : Int64)) FP.dconst1)), .unset, .unset, .unset, .unset] [(.int kk6), (.ref b4)])) _
    refine st7.trans ?_
    show Steps p.tables e below (T7.setTop (mkF m 75 #[.val (.long q1), .second, .val (.int p2), .val (.int p3), .val (.int kk6), .val (.ref b4), .val (.int (F3 (FP.l2d (240000 : Int64)) FP.dconst1)), .unset, .unset, .unset, .unset] [])) _
    refine XS.aload X7.here hx rfl (hb hby at_75) rfl rfl ?_
    show Steps p.tables e below (T7.setTop (mkF m 77 #[.val (.long q1), .second, .val (.int p2), .val (.int p3), .val (.int kk6), .val (.ref b4), .val (.int (F3 (FP.l2d (240000 : Int64)) FP.dconst1)), .unset, .unset, .unset, .unset] [(.ref b4)])) _
    refine st8.trans ?_
    show Steps p.tables e below (T8.setTop (mkF m 80 #[.val (.long q1), .second, .val (.int p2), .val (.int p3), .val (.int kk6), .val (.ref b4), .val (.int (F3 (FP.l2d (240000 : Int64)) FP.dconst1)), .unset, .unset, .unset, .unset] [(.int (F3 (FP.l2d (240000 : Int64)) c3))])) _
    refine XS.istore X8.here hx rfl (hb hby at_80) rfl (l' := #[.val (.long q1), .second, .val (.int p2), .val (.int p3), .val (.int kk6), .val (.ref b4), .val (.int (F3 (FP.l2d (240000 : Int64)) FP.dconst1)), .val (.int (F3 (FP.l2d (240000 : Int64)) c3)), .unset, .unset, .unset]) rfl ?_
    show Steps p.tables e below (T8.setTop (mkF m 82 #[.val (.long q1), .second, .val (.int p2), .val (.int p3), .val (.int kk6), .val (.ref b4), .val (.int (F3 (FP.l2d (240000 : Int64)) FP.dconst1)), .val (.int (F3 (FP.l2d (240000 : Int64)) c3)), .unset, .unset, .unset] [])) _
    refine XS.iconst X8.here hx rfl (hb hby at_82) ?_
    show Steps p.tables e below (T8.setTop (mkF m 83 #[.val (.long q1), .second, .val (.int p2), .val (.int p3), .val (.int kk6), .val (.ref b4), .val (.int (F3 (FP.l2d (240000 : Int64)) FP.dconst1)), .val (.int (F3 (FP.l2d (240000 : Int64)) c3)), .unset, .unset, .unset] [(.int (0 : Int32))])) _
    refine XS.istore X8.here hx rfl (hb hby at_83) rfl (l' := #[.val (.long q1), .second, .val (.int p2), .val (.int p3), .val (.int kk6), .val (.ref b4), .val (.int (F3 (FP.l2d (240000 : Int64)) FP.dconst1)), .val (.int (F3 (FP.l2d (240000 : Int64)) c3)), .val (.int (0 : Int32)), .unset, .unset]) rfl ?_
    show Steps p.tables e below (T8.setTop (mkF m 85 #[.val (.long q1), .second, .val (.int p2), .val (.int p3), .val (.int kk6), .val (.ref b4), .val (.int (F3 (FP.l2d (240000 : Int64)) FP.dconst1)), .val (.int (F3 (FP.l2d (240000 : Int64)) c3)), .val (.int (0 : Int32)), .unset, .unset] [])) _
    refine XS.aload X8.here hx rfl (hb hby at_85) rfl rfl ?_
    show Steps p.tables e below (T8.setTop (mkF m 87 #[.val (.long q1), .second, .val (.int p2), .val (.int p3), .val (.int kk6), .val (.ref b4), .val (.int (F3 (FP.l2d (240000 : Int64)) FP.dconst1)), .val (.int (F3 (FP.l2d (240000 : Int64)) c3)), .val (.int (0 : Int32)), .unset, .unset] [(.ref b4)])) _
    refine XS.lloadN X8.here hx rfl (hb hby at_87) rfl ?_
    show Steps p.tables e below (T8.setTop (mkF m 88 #[.val (.long q1), .second, .val (.int p2), .val (.int p3), .val (.int kk6), .val (.ref b4), .val (.int (F3 (FP.l2d (240000 : Int64)) FP.dconst1)), .val (.int (F3 (FP.l2d (240000 : Int64)) c3)), .val (.int (0 : Int32)), .unset, .unset] [(.long q1), (.ref b4)])) _
    refine st9.trans ?_
    show Steps p.tables e below (T9.setTop (mkF m 91 #[.val (.long q1), .second, .val (.int p2), .val (.int p3), .val (.int kk6), .val (.ref b4), .val (.int (F3 (FP.l2d (240000 : Int64)) FP.dconst1)), .val (.int (F3 (FP.l2d (240000 : Int64)) c3)), .val (.int (0 : Int32)), .unset, .unset] [])) _
    refine XS.aload X9.here hx rfl (hb hby at_91) rfl rfl ?_
    show Steps p.tables e below (T9.setTop (mkF m 93 #[.val (.long q1), .second, .val (.int p2), .val (.int p3), .val (.int kk6), .val (.ref b4), .val (.int (F3 (FP.l2d (240000 : Int64)) FP.dconst1)), .val (.int (F3 (FP.l2d (240000 : Int64)) c3)), .val (.int (0 : Int32)), .unset, .unset] [(.ref b4)])) _
    refine st10.trans ?_
    show Steps p.tables e below (T10.setTop (mkF m 96 #[.val (.long q1), .second, .val (.int p2), .val (.int p3), .val (.int kk6), .val (.ref b4), .val (.int (F3 (FP.l2d (240000 : Int64)) FP.dconst1)), .val (.int (F3 (FP.l2d (240000 : Int64)) c3)), .val (.int (0 : Int32)), .unset, .unset] [(.int (F3 w3 c3))])) _
    refine XS.istore X10.here hx rfl (hb hby at_96) rfl (l' := #[.val (.long q1), .second, .val (.int p2), .val (.int p3), .val (.int kk6), .val (.ref b4), .val (.int (F3 (FP.l2d (240000 : Int64)) FP.dconst1)), .val (.int (F3 (FP.l2d (240000 : Int64)) c3)), .val (.int (0 : Int32)), .val (.int (F3 w3 c3)), .unset]) rfl ?_
    show Steps p.tables e below (T10.setTop (mkF m 98 #[.val (.long q1), .second, .val (.int p2), .val (.int p3), .val (.int kk6), .val (.ref b4), .val (.int (F3 (FP.l2d (240000 : Int64)) FP.dconst1)), .val (.int (F3 (FP.l2d (240000 : Int64)) c3)), .val (.int (0 : Int32)), .val (.int (F3 w3 c3)), .unset] [])) _
    refine XS.lloadN X10.here hx rfl (hb hby at_98) rfl ?_
    show Steps p.tables e below (T10.setTop (mkF m 99 #[.val (.long q1), .second, .val (.int p2), .val (.int p3), .val (.int kk6), .val (.ref b4), .val (.int (F3 (FP.l2d (240000 : Int64)) FP.dconst1)), .val (.int (F3 (FP.l2d (240000 : Int64)) c3)), .val (.int (0 : Int32)), .val (.int (F3 w3 c3)), .unset] [(.long q1)])) _
    refine X10.ldc2Long hx hown (mvT hZ (hw _ (List.mem_of_getElem? (i := 33) rfl))) (g := (mkF m 99 #[.val (.long q1), .second, .val (.int p2), .val (.int p3), .val (.int kk6), .val (.ref b4), .val (.int (F3 (FP.l2d (240000 : Int64)) FP.dconst1)), .val (.int (F3 (FP.l2d (240000 : Int64)) c3)), .val (.int (0 : Int32)), .val (.int (F3 w3 c3)), .unset] [(.long q1)])) rfl (hb hby at_99) _ ?_
    show Steps p.tables e below (T10.setTop (mkF m 102 #[.val (.long q1), .second, .val (.int p2), .val (.int p3), .val (.int kk6), .val (.ref b4), .val (.int (F3 (FP.l2d (240000 : Int64)) FP.dconst1)), .val (.int (F3 (FP.l2d (240000 : Int64)) c3)), .val (.int (0 : Int32)), .val (.int (F3 w3 c3)), .unset] [(.long (-1440000 : Int64)), (.long q1)])) _
    refine XS.lcmp X10.here hx rfl (hb hby at_102) rfl ?_
    show Steps p.tables e below (T10.setTop (mkF m 103 #[.val (.long q1), .second, .val (.int p2), .val (.int p3), .val (.int kk6), .val (.ref b4), .val (.int (F3 (FP.l2d (240000 : Int64)) FP.dconst1)), .val (.int (F3 (FP.l2d (240000 : Int64)) c3)), .val (.int (0 : Int32)), .val (.int (F3 w3 c3)), .unset] [(.int (lcmpW q1 (-1440000 : Int64)))])) _
    refine XS.ifNo X10.here hx rfl (hb hby at_103) rfl ((if0 _ _).trans (tlt hc103).2.1) ?_
    show Steps p.tables e below (T10.setTop (mkF m 106 #[.val (.long q1), .second, .val (.int p2), .val (.int p3), .val (.int kk6), .val (.ref b4), .val (.int (F3 (FP.l2d (240000 : Int64)) FP.dconst1)), .val (.int (F3 (FP.l2d (240000 : Int64)) c3)), .val (.int (0 : Int32)), .val (.int (F3 w3 c3)), .unset] [])) _
    refine XS.iload X10.here hx rfl (hb hby at_106) rfl ?_
    show Steps p.tables e below (T10.setTop (mkF m 108 #[.val (.long q1), .second, .val (.int p2), .val (.int p3), .val (.int kk6), .val (.ref b4), .val (.int (F3 (FP.l2d (240000 : Int64)) FP.dconst1)), .val (.int (F3 (FP.l2d (240000 : Int64)) c3)), .val (.int (0 : Int32)), .val (.int (F3 w3 c3)), .unset] [(.int kk6)])) _
    refine XS.iconst X10.here hx rfl (hb hby at_108) ?_
    show Steps p.tables e below (T10.setTop (mkF m 109 #[.val (.long q1), .second, .val (.int p2), .val (.int p3), .val (.int kk6), .val (.ref b4), .val (.int (F3 (FP.l2d (240000 : Int64)) FP.dconst1)), .val (.int (F3 (FP.l2d (240000 : Int64)) c3)), .val (.int (0 : Int32)), .val (.int (F3 w3 c3)), .unset] [(.int (5 : Int32)), (.int kk6)])) _
    refine XS.icmpYes X10.here hx rfl (pc0 := 109) (pc' := 116) rfl (hb hby at_109) rfl (flt hc109).2.1 (by decide) (by decide) ?_
    show Steps p.tables e below (T10.setTop (mkF m 116 #[.val (.long q1), .second, .val (.int p2), .val (.int p3), .val (.int kk6), .val (.ref b4), .val (.int (F3 (FP.l2d (240000 : Int64)) FP.dconst1)), .val (.int (F3 (FP.l2d (240000 : Int64)) c3)), .val (.int (0 : Int32)), .val (.int (F3 w3 c3)), .unset] [])) _
    refine XS.iconst X10.here hx rfl (hb hby at_116) ?_
    show Steps p.tables e below (T10.setTop (mkF m 117 #[.val (.long q1), .second, .val (.int p2), .val (.int p3), .val (.int kk6), .val (.ref b4), .val (.int (F3 (FP.l2d (240000 : Int64)) FP.dconst1)), .val (.int (F3 (FP.l2d (240000 : Int64)) c3)), .val (.int (0 : Int32)), .val (.int (F3 w3 c3)), .unset] [(.int (0 : Int32))])) _
    refine XS.istore X10.here hx rfl (hb hby at_117) rfl (l' := #[.val (.long q1), .second, .val (.int p2), .val (.int p3), .val (.int kk6), .val (.ref b4), .val (.int (F3 (FP.l2d (240000 : Int64)) FP.dconst1)), .val (.int (F3 (FP.l2d (240000 : Int64)) c3)), .val (.int (0 : Int32)), .val (.int (F3 w3 c3)), .val (.int (0 : Int32))]) rfl ?_
    show Steps p.tables e below (T10.setTop (mkF m 119 #[.val (.long q1), .second, .val (.int p2), .val (.int p3), .val (.int kk6), .val (.ref b4), .val (.int (F3 (FP.l2d (240000 : Int64)) FP.dconst1)), .val (.int (F3 (FP.l2d (240000 : Int64)) c3)), .val (.int (0 : Int32)), .val (.int (F3 w3 c3)), .val (.int (0 : Int32))] [])) _
    refine XS.iload X10.here hx rfl (hb hby at_119) rfl ?_
    show Steps p.tables e below (T10.setTop (mkF m 121 #[.val (.long q1), .second, .val (.int p2), .val (.int p3), .val (.int kk6), .val (.ref b4), .val (.int (F3 (FP.l2d (240000 : Int64)) FP.dconst1)), .val (.int (F3 (FP.l2d (240000 : Int64)) c3)), .val (.int (0 : Int32)), .val (.int (F3 w3 c3)), .val (.int (0 : Int32))] [(.int (F3 (FP.l2d (240000 : Int64)) FP.dconst1))])) _
    refine XS.ifNo X10.here hx rfl (hb hby at_121) rfl ((if0 _ _).trans (teq hq1).2) ?_
    show Steps p.tables e below (T10.setTop (mkF m 124 #[.val (.long q1), .second, .val (.int p2), .val (.int p3), .val (.int kk6), .val (.ref b4), .val (.int (F3 (FP.l2d (240000 : Int64)) FP.dconst1)), .val (.int (F3 (FP.l2d (240000 : Int64)) c3)), .val (.int (0 : Int32)), .val (.int (F3 w3 c3)), .val (.int (0 : Int32))] [])) _
    refine XS.iload X10.here hx rfl (hb hby at_124) rfl ?_
    show Steps p.tables e below (T10.setTop (mkF m 126 #[.val (.long q1), .second, .val (.int p2), .val (.int p3), .val (.int kk6), .val (.ref b4), .val (.int (F3 (FP.l2d (240000 : Int64)) FP.dconst1)), .val (.int (F3 (FP.l2d (240000 : Int64)) c3)), .val (.int (0 : Int32)), .val (.int (F3 w3 c3)), .val (.int (0 : Int32))] [(.int (F3 (FP.l2d (240000 : Int64)) c3))])) _
    refine XS.iload X10.here hx rfl (hb hby at_126) rfl ?_
    show Steps p.tables e below (T10.setTop (mkF m 128 #[.val (.long q1), .second, .val (.int p2), .val (.int p3), .val (.int kk6), .val (.ref b4), .val (.int (F3 (FP.l2d (240000 : Int64)) FP.dconst1)), .val (.int (F3 (FP.l2d (240000 : Int64)) c3)), .val (.int (0 : Int32)), .val (.int (F3 w3 c3)), .val (.int (0 : Int32))] [(.int (0 : Int32)), (.int (F3 (FP.l2d (240000 : Int64)) c3))])) _
    refine XS.icmpNo X10.here hx rfl (hb hby at_128) rfl (teq hq2).2 ?_
    show Steps p.tables e below (T10.setTop (mkF m 131 #[.val (.long q1), .second, .val (.int p2), .val (.int p3), .val (.int kk6), .val (.ref b4), .val (.int (F3 (FP.l2d (240000 : Int64)) FP.dconst1)), .val (.int (F3 (FP.l2d (240000 : Int64)) c3)), .val (.int (0 : Int32)), .val (.int (F3 w3 c3)), .val (.int (0 : Int32))] [])) _
    refine XS.iload X10.here hx rfl (hb hby at_131) rfl ?_
    show Steps p.tables e below (T10.setTop (mkF m 133 #[.val (.long q1), .second, .val (.int p2), .val (.int p3), .val (.int kk6), .val (.ref b4), .val (.int (F3 (FP.l2d (240000 : Int64)) FP.dconst1)), .val (.int (F3 (FP.l2d (240000 : Int64)) c3)), .val (.int (0 : Int32)), .val (.int (F3 w3 c3)), .val (.int (0 : Int32))] [(.int (F3 w3 c3))])) _
    refine XS.iload X10.here hx rfl (hb hby at_133) rfl ?_
    show Steps p.tables e below (T10.setTop (mkF m 135 #[.val (.long q1), .second, .val (.int p2), .val (.int p3), .val (.int kk6), .val (.ref b4), .val (.int (F3 (FP.l2d (240000 : Int64)) FP.dconst1)), .val (.int (F3 (FP.l2d (240000 : Int64)) c3)), .val (.int (0 : Int32)), .val (.int (F3 w3 c3)), .val (.int (0 : Int32))] [(.int (0 : Int32)), (.int (F3 w3 c3))])) _
    refine XS.icmpNo X10.here hx rfl (hb hby at_135) rfl (teq hq3).2 ?_
    show Steps p.tables e below (T10.setTop (mkF m 138 #[.val (.long q1), .second, .val (.int p2), .val (.int p3), .val (.int kk6), .val (.ref b4), .val (.int (F3 (FP.l2d (240000 : Int64)) FP.dconst1)), .val (.int (F3 (FP.l2d (240000 : Int64)) c3)), .val (.int (0 : Int32)), .val (.int (F3 w3 c3)), .val (.int (0 : Int32))] [])) _
    refine XS.iconst X10.here hx rfl (hb hby at_138) ?_
    show Steps p.tables e below (T10.setTop (mkF m 139 #[.val (.long q1), .second, .val (.int p2), .val (.int p3), .val (.int kk6), .val (.ref b4), .val (.int (F3 (FP.l2d (240000 : Int64)) FP.dconst1)), .val (.int (F3 (FP.l2d (240000 : Int64)) c3)), .val (.int (0 : Int32)), .val (.int (F3 w3 c3)), .val (.int (0 : Int32))] [(.int (1 : Int32))])) _
    refine XS.goto X10.here hx rfl (pc0 := 139) (pc' := 143) rfl (hb hby at_139) (by decide) (by decide) ?_
    show Steps p.tables e below (T10.setTop (mkF m 143 #[.val (.long q1), .second, .val (.int p2), .val (.int p3), .val (.int kk6), .val (.ref b4), .val (.int (F3 (FP.l2d (240000 : Int64)) FP.dconst1)), .val (.int (F3 (FP.l2d (240000 : Int64)) c3)), .val (.int (0 : Int32)), .val (.int (F3 w3 c3)), .val (.int (0 : Int32))] [(.int (1 : Int32))])) _
    exact retN X10 hx (t := .boolean) Bd.returns (by simp) (hb hby at_143) hr
  · show QL n0 _ T10.heap _
    exact ⟨rfl, N10⟩
set_option maxRecDepth 65536 in
set_option maxHeartbeats 40000000 in
theorem rm0_ttfff (l : Launch) (Z : State) (a0 : Array Value) (hw : ∀ d ∈ tables_1, d.before a0 Z = true) (ws : List Jvm.Cond) (q1 : Int64) (p2 : Int32) (p3 : Int32) (kk6 : Int32) (w1 : UInt64) (w2 : UInt64) (w3 : UInt64) (c1 : UInt64) (c2 : UInt64) (c3 : UInt64) (h0 : Heap) (n0 : Nat) (Z0 : n0 ≤ h0.size) (hk6 : ((1 : Int32) + (p2 &&& (1073741823 : Int32))) = kk6) (hw1 : (FP.dsub (FP.l2d (F5 q1 (240000 : Int64))) (FP.l2d (240000 : Int64))) = w1) (hn1 : Jvm.Free.Fl.NoNaN64 (FP.dsub (FP.l2d (F5 q1 (240000 : Int64))) (FP.l2d (240000 : Int64)))) (hw2 : (FP.ddiv w1 (4620693217682128896 : UInt64)) = w2) (hn2 : Jvm.Free.Fl.NoNaN64 (FP.ddiv w1 (4620693217682128896 : UInt64))) (hw3 : (FP.dadd (FP.l2d (240000 : Int64)) w2) = w3) (hn3 : Jvm.Free.Fl.NoNaN64 (FP.dadd (FP.l2d (240000 : Int64)) w2)) (hx1 : (FP.dsub (FP.i2d kk6) FP.dconst1) = c1) (hm1 : Jvm.Free.Fl.NoNaN64 (FP.dsub (FP.i2d kk6) FP.dconst1)) (hx2 : (FP.ddiv c1 (4620693217682128896 : UInt64)) = c2) (hm2 : Jvm.Free.Fl.NoNaN64 (FP.ddiv c1 (4620693217682128896 : UInt64))) (hx3 : (FP.dadd FP.dconst1 c2) = c3) (hm3 : Jvm.Free.Fl.NoNaN64 (FP.dadd FP.dconst1 c2)) (S0 : Sta Z h0 "com/example/tanager/tanager/Polling" "LONGEST_WAIT_COUNTED" "J" (.long (240000 : Int64))) (S0' : Sta Z h0 "com/example/tanager/tanager/Polling" "NANOS" "J" (.long (30000 : Int64))) (hc27 : (p3 &&& (1 : Int32)) = (0 : Int32)) (hc103 : ¬ ((lcmpW q1 (-1440000 : Int64)) < (0 : Int32))) (hq1 : (F3 (FP.l2d (240000 : Int64)) FP.dconst1) = (0 : Int32)) (hq2 : (F3 (FP.l2d (240000 : Int64)) c3) = (0 : Int32)) (hq3 : (F3 w3 c3) = (0 : Int32)) :
    MetFree l x (head1 (Jvm.Cond.code x code maxLocals ret :: ws) room_1) (fun a U => a = #[(.long q1), (.int p2), (.int p3)] ∧ Z.Warmed39 U.vm ∧ U.heap = h0) (fun _ _ _ _ _ => True) (fun _ U o U' => ∃ v L, o = .returned v ∧ QL n0 v U'.heap L ∧ FrameEnd U o U' L room_1.cells room_1.slots) := by
  refine MetFree.of_bodySF (plainFor_of_name pn_0) hisR ?_
  intro p e s m args below meth c s₁ Bd hml0 hP hK
  obtain ⟨rfl, hZ, hh⟩ := hP
  have hx := Bd.exec
  have hby := Bd.bytes
  have hml : c.maxLocals = 11 := hml0
  have hown : s.vm.findClass "com/example/tanager/tanager/PollingWorthItPinLaw" = some m.cls := findClass_of_methodNamed Bd.named
  have hnm := (name_of_methodNamed Bd.named Bd.method).1
  have X0 : Stand p l e room_1 s m #[(.long q1), (.int p2), (.int p3)] below meth c s₁ [] 0 0 := Stand.of_body Bd
  have e0 : s₁.heap = h0 := by rw [← hh, Bd.state]; rfl
  have N0 := Fr.nil n0
  have pre0 : ∀ t, Steps p.tables e below (s₁.setTop (mkF m 0 #[.val (.long q1), .second, .val (.int p2), .val (.int p3), .unset, .unset, .unset, .unset, .unset, .unset, .unset] [])) t → Steps p.tables e below (s₁.setTop (entryFrame m #[(.long q1), (.int p2), (.int p3)] maxLocals)) t := fun t k => castTop (ef_0 m q1 p2 p3) k
  obtain ⟨T4, h4, X4, e4, E4, A4, D4, -, st4⟩ := newO X0 hx hZ hown (hw _ (List.mem_of_getElem? (i := 1) rfl)) (hw _ (List.mem_of_getElem? (i := 2) rfl)) (hw _ (List.mem_of_getElem? (i := 3) rfl)) e0 (g := (mkF m 8 #[.val (.long q1), .second, .val (.int p2), .val (.int p3), .val (.int kk6), .unset, .unset, .unset, .unset, .unset, .unset] [])) rfl (hb hby at_8) (by decide) (by decide)
  obtain ⟨b4, g4⟩ : ∃ z, z = h0.size := ⟨_, rfl⟩
  rw [← g4] at A4 D4 st4
  have F_recentWaitNanos_b4 : Fld Z h4 b4 "com/example/tanager/tanager/Polling" "recentWaitNanos" "D" (.double (0 : UInt64)) := D4 (Or.inl (hw _ (List.mem_of_getElem? (i := 13) rfl))) (ty := .double) (by decide)
  have F_recentCalls_b4 : Fld Z h4 b4 "com/example/tanager/tanager/Polling" "recentCalls" "D" (.double (0 : UInt64)) := D4 (Or.inl (hw _ (List.mem_of_getElem? (i := 15) rfl))) (ty := .double) (by decide)
  have E_b4 := A4
  have g_b4 : n0 ≤ b4 := Nat.le_trans Z0 (Nat.le_of_eq g4.symm)
  have sz_b4 : h0.size ≤ b4 := (Nat.le_trans (Keep.refl h0 []).1 (Nat.le_of_eq g4.symm))
  have K4 : Keep h0 h4 [] := (Keep.refl h0 []).ext E4
  obtain ⟨_, _, ⟨T5, L5, k5, n5⟩, -, X5, ⟨Lc5, hQ5, l5, y5, z5⟩, st5⟩ := X4.specialBack hx (y := (⟨"com/example/tanager/tanager/Polling", "<init>", "()V"⟩ : MethodName)) rfl hown (mvT hZ (hw _ (List.mem_of_getElem? (i := 4) rfl))) (mvT hZ (hw _ (List.mem_of_getElem? (i := 5) rfl))) (mvT hZ (hw _ (List.mem_of_getElem? (i := 6) rfl))) (by decide) (backOf (W := 1) (rm1 l Z a0 hw [] b4 (240000 : Int64) _ _ h4 n0 (Nat.le_trans Z0 E4.1) (S0.ext E4) E_b4 F_recentWaitNanos_b4 g_b4 F_recentCalls_b4) hZ (hw _ (List.mem_of_getElem? (i := 6) rfl)) (hw _ (List.mem_of_getElem? (i := 3) rfl)) (by decide) (by decide)) (g := (mkF m 12 #[.val (.long q1), .second, .val (.int p2), .val (.int p3), .val (.int kk6), .unset, .unset, .unset, .unset, .unset, .unset] [(.ref b4), (.ref b4)])) rfl (by rw [hml]; rfl) (Steps.refl _) (a := b4) (argsL := []) (rest := [(.ref b4)]) (lenOf pd_0_0 rfl) rfl (by show 2 * 0 + _ ≤ _; exact Nat.le_of_eq rfl) (hb hby at_12) (fun _ _ => ⟨rfl, e4, (by decide : 1 + 0 ≤ _), (by decide : 2 + 0 ≤ _)⟩)
  dsimp only [Pt.U, Pt.locs, Pt.cells, Pt.slots] at X5 l5 y5 z5 st5 hQ5
  subst l5 y5 z5
  obtain ⟨rfl, N5q, K5c, E5, Fw5, Fc5⟩ := hQ5
  have Z5 : n0 ≤ T5.heap.size := Nat.le_trans (Nat.le_trans Z0 E4.1) K5c.1
  have S5 := own_sta_keep (S0.ext E4) K5c E_b4
  have S5' := own_sta_keep (S0'.ext E4) K5c E_b4
  have N5 := Fr.app N0 N5q
  obtain ⟨cq6, kq6, q6a, q6b, q6c⟩ := isOf hZ rfl (E_b4.keep K5c)
  obtain ⟨_, _, ⟨T6, L6, k6, n6⟩, -, X6, ⟨Lc6, hQ6, l6, y6, z6⟩, st6⟩ := X5.virtualBack hx (y := (⟨"com/example/tanager/tanager/Polling", "worthIt", "()Z"⟩ : MethodName)) (z := (⟨"com/example/tanager/tanager/Polling", "worthIt", "()Z"⟩ : MethodName)) hown (mvT hZ (hw _ (List.mem_of_getElem? (i := 16) rfl))) (mvT hZ (hw _ (List.mem_of_getElem? (i := 17) rfl))) (notFace_of_selects (args := #[]) (mvT hZ (hw _ (List.mem_of_getElem? (i := 19) rfl)))) (mvT hZ (hw _ (List.mem_of_getElem? (i := 19) rfl))) (mvT hZ (hw _ (List.mem_of_getElem? (i := 18) rfl))) (by decide) (backOf (W := 0) (rm3 l Z a0 hw [] b4 (FP.l2d (240000 : Int64)) FP.dconst1 T5.heap n0 Z5 Fw5 S5' Fc5) hZ (hw _ (List.mem_of_getElem? (i := 20) rfl)) (hw _ (List.mem_of_getElem? (i := 3) rfl)) (by decide) (by decide)) q6a q6c (g := (mkF m 19 #[.val (.long q1), .second, .val (.int p2), .val (.int p3), .val (.int kk6), .val (.ref b4), .unset, .unset, .unset, .unset, .unset] [(.ref b4)])) rfl (by rw [hml]; rfl) (Steps.refl _) (argsL := []) (rest := []) (lenOf pd_0_1 rfl) rfl (by show 2 * 0 + _ ≤ _; exact Nat.le_of_eq rfl) (hb hby at_19) (fun _ _ => ⟨rfl, rfl, (by decide : 1 + 0 ≤ _), (by decide : 2 + 0 ≤ _)⟩)
  dsimp only [Pt.U, Pt.locs, Pt.cells, Pt.slots] at X6 l6 y6 z6 st6 hQ6
  subst l6 y6 z6
  obtain ⟨rfl, N6q, eh6⟩ := hQ6
  have K6c : Keep T5.heap T6.heap [] := by rw [eh6]; exact Keep.refl _ _
  have Z6 : n0 ≤ T6.heap.size := by rw [eh6]; exact Z5
  have E6 := E5.keep K6c
  have Fw6 := Fw5.keep K6c (by simp)
  have Fc6 := Fc5.keep K6c (by simp)
  have S6 : Sta Z T6.heap "com/example/tanager/tanager/Polling" "LONGEST_WAIT_COUNTED" "J" (.long (240000 : Int64)) := by rw [eh6]; exact S5
  have S6' : Sta Z T6.heap "com/example/tanager/tanager/Polling" "NANOS" "J" (.long (30000 : Int64)) := by rw [eh6]; exact S5'
  have N6 := Fr.app N5 N6q
  obtain ⟨cq7, kq7, q7a, q7b, q7c⟩ := isOf hZ rfl ((E_b4.keep K5c).keep K6c)
  obtain ⟨_, _, ⟨T7, L7, k7, n7⟩, -, X7, ⟨Lc7, hQ7, l7, y7, z7⟩, st7⟩ := X6.virtualBack hx (y := (⟨"com/example/tanager/tanager/Polling", "counted", "(I)V"⟩ : MethodName)) (z := (⟨"com/example/tanager/tanager/Polling", "counted", "(I)V"⟩ : MethodName)) hown (mvT hZ (hw _ (List.mem_of_getElem? (i := 34) rfl))) (mvT hZ (hw _ (List.mem_of_getElem? (i := 35) rfl))) (notFace_of_selects (args := #[]) (mvT hZ (hw _ (List.mem_of_getElem? (i := 37) rfl)))) (mvT hZ (hw _ (List.mem_of_getElem? (i := 37) rfl))) (mvT hZ (hw _ (List.mem_of_getElem? (i := 36) rfl))) (by decide) (backOf (W := 0) (rm6 l Z a0 hw [] b4 kk6 FP.dconst1 c1 c2 c3 (FP.l2d (240000 : Int64)) T6.heap n0 Z6 Fc6 E6 Fw6 g_b4 hx1 hm1 hx2 hm2 hx3 hm3) hZ (hw _ (List.mem_of_getElem? (i := 38) rfl)) (hw _ (List.mem_of_getElem? (i := 3) rfl)) (by decide) (by decide)) q7a q7c (g := (mkF m 72 #[.val (.long q1), .second, .val (.int p2), .val (.int p3), .val (.int kk6), .val (.ref b4), .val (.int (F3 (FP.l2d (240000 : Int64)) FP.dconst1)), .unset, .unset, .unset, .unset] [(.int kk6), (.ref b4)])) rfl (by rw [hml]; rfl) (Steps.refl _) (argsL := [(.int kk6)]) (rest := []) (lenOf pd_0_4 rfl) rfl (by show 2 * 0 + _ ≤ _; exact Nat.le_of_eq rfl) (hb hby at_72) (fun _ _ => ⟨rfl, rfl, (by decide : 1 + 0 ≤ _), (by decide : 2 + 0 ≤ _)⟩)
  dsimp only [Pt.U, Pt.locs, Pt.cells, Pt.slots] at X7 l7 y7 z7 st7 hQ7
  subst l7 y7 z7
  obtain ⟨rfl, N7q, K7c, E7, Fw7, Fc7⟩ := hQ7
  have Z7 : n0 ≤ T7.heap.size := Nat.le_trans Z6 K7c.1
  have S7 := own_sta_keep S6 K7c E6
  have S7' := own_sta_keep S6' K7c E6
  have N7 := Fr.app N6 N7q
  obtain ⟨cq8, kq8, q8a, q8b, q8c⟩ := isOf hZ rfl (((E_b4.keep K5c).keep K6c).keep K7c)
  obtain ⟨_, _, ⟨T8, L8, k8, n8⟩, -, X8, ⟨Lc8, hQ8, l8, y8, z8⟩, st8⟩ := X7.virtualBack hx (y := (⟨"com/example/tanager/tanager/Polling", "worthIt", "()Z"⟩ : MethodName)) (z := (⟨"com/example/tanager/tanager/Polling", "worthIt", "()Z"⟩ : MethodName)) hown (mvT hZ (hw _ (List.mem_of_getElem? (i := 16) rfl))) (mvT hZ (hw _ (List.mem_of_getElem? (i := 17) rfl))) (notFace_of_selects (args := #[]) (mvT hZ (hw _ (List.mem_of_getElem? (i := 19) rfl)))) (mvT hZ (hw _ (List.mem_of_getElem? (i := 19) rfl))) (mvT hZ (hw _ (List.mem_of_getElem? (i := 18) rfl))) (by decide) (backOf (W := 0) (rm3 l Z a0 hw [] b4 (FP.l2d (240000 : Int64)) c3 T7.heap n0 Z7 Fw7 S7' Fc7) hZ (hw _ (List.mem_of_getElem? (i := 20) rfl)) (hw _ (List.mem_of_getElem? (i := 3) rfl)) (by decide) (by decide)) q8a q8c (g := (mkF m 77 #[.val (.long q1), .second, .val (.int p2), .val (.int p3), .val (.int kk6), .val (.ref b4), .val (.int (F3 (FP.l2d (240000 : Int64)) FP.dconst1)), .unset, .unset, .unset, .unset] [(.ref b4)])) rfl (by rw [hml]; rfl) (Steps.refl _) (argsL := []) (rest := []) (lenOf pd_0_1 rfl) rfl (by show 2 * 0 + _ ≤ _; exact Nat.le_of_eq rfl) (hb hby at_77) (fun _ _ => ⟨rfl, rfl, (by decide : 1 + 0 ≤ _), (by decide : 2 + 0 ≤ _)⟩)
  dsimp only [Pt.U, Pt.locs, Pt.cells, Pt.slots] at X8 l8 y8 z8 st8 hQ8
  subst l8 y8 z8
  obtain ⟨rfl, N8q, eh8⟩ := hQ8
  have K8c : Keep T7.heap T8.heap [] := by rw [eh8]; exact Keep.refl _ _
  have Z8 : n0 ≤ T8.heap.size := by rw [eh8]; exact Z7
  have E8 := E7.keep K8c
  have Fw8 := Fw7.keep K8c (by simp)
  have Fc8 := Fc7.keep K8c (by simp)
  have S8 : Sta Z T8.heap "com/example/tanager/tanager/Polling" "LONGEST_WAIT_COUNTED" "J" (.long (240000 : Int64)) := by rw [eh8]; exact S7
  have S8' : Sta Z T8.heap "com/example/tanager/tanager/Polling" "NANOS" "J" (.long (30000 : Int64)) := by rw [eh8]; exact S7'
  have N8 := Fr.app N7 N8q
  obtain ⟨cq9, kq9, q9a, q9b, q9c⟩ := isOf hZ rfl ((((E_b4.keep K5c).keep K6c).keep K7c).keep K8c)
  obtain ⟨_, _, ⟨T9, L9, k9, n9⟩, -, X9, ⟨Lc9, hQ9, l9, y9, z9⟩, st9⟩ := X8.virtualBack hx (y := (⟨"com/example/tanager/tanager/Polling", "waited", "(J)V"⟩ : MethodName)) (z := (⟨"com/example/tanager/tanager/Polling", "waited", "(J)V"⟩ : MethodName)) hown (mvT hZ (hw _ (List.mem_of_getElem? (i := 23) rfl))) (mvT hZ (hw _ (List.mem_of_getElem? (i := 24) rfl))) (notFace_of_selects (args := #[]) (mvT hZ (hw _ (List.mem_of_getElem? (i := 26) rfl)))) (mvT hZ (hw _ (List.mem_of_getElem? (i := 26) rfl))) (mvT hZ (hw _ (List.mem_of_getElem? (i := 25) rfl))) (by decide) (backOf (W := 0) (rm4 l Z a0 hw [] b4 q1 (FP.l2d (240000 : Int64)) w1 w2 w3 c3 T8.heap n0 Z8 Fw8 S8 E8 Fc8 g_b4 hw1 hn1 hw2 hn2 hw3 hn3) hZ (hw _ (List.mem_of_getElem? (i := 27) rfl)) (hw _ (List.mem_of_getElem? (i := 3) rfl)) (by decide) (by decide)) q9a q9c (g := (mkF m 88 #[.val (.long q1), .second, .val (.int p2), .val (.int p3), .val (.int kk6), .val (.ref b4), .val (.int (F3 (FP.l2d (240000 : Int64)) FP.dconst1)), .val (.int (F3 (FP.l2d (240000 : Int64)) c3)), .val (.int (0 : Int32)), .unset, .unset] [(.long q1), (.ref b4)])) rfl (by rw [hml]; rfl) (Steps.refl _) (argsL := [(.long q1)]) (rest := []) (lenOf pd_0_2 rfl) rfl (by show 2 * 0 + _ ≤ _; exact Nat.le_of_eq rfl) (hb hby at_88) (fun _ _ => ⟨rfl, rfl, (by decide : 1 + 0 ≤ _), (by decide : 2 + 0 ≤ _)⟩)
  dsimp only [Pt.U, Pt.locs, Pt.cells, Pt.slots] at X9 l9 y9 z9 st9 hQ9
  subst l9 y9 z9
  obtain ⟨rfl, N9q, K9c, E9, Fw9, Fc9⟩ := hQ9
  have Z9 : n0 ≤ T9.heap.size := Nat.le_trans Z8 K9c.1
  have S9 := own_sta_keep S8 K9c E8
  have S9' := own_sta_keep S8' K9c E8
  have N9 := Fr.app N8 N9q
  obtain ⟨cq10, kq10, q10a, q10b, q10c⟩ := isOf hZ rfl (((((E_b4.keep K5c).keep K6c).keep K7c).keep K8c).keep K9c)
  obtain ⟨_, _, ⟨T10, L10, k10, n10⟩, -, X10, ⟨Lc10, hQ10, l10, y10, z10⟩, st10⟩ := X9.virtualBack hx (y := (⟨"com/example/tanager/tanager/Polling", "worthIt", "()Z"⟩ : MethodName)) (z := (⟨"com/example/tanager/tanager/Polling", "worthIt", "()Z"⟩ : MethodName)) hown (mvT hZ (hw _ (List.mem_of_getElem? (i := 16) rfl))) (mvT hZ (hw _ (List.mem_of_getElem? (i := 17) rfl))) (notFace_of_selects (args := #[]) (mvT hZ (hw _ (List.mem_of_getElem? (i := 19) rfl)))) (mvT hZ (hw _ (List.mem_of_getElem? (i := 19) rfl))) (mvT hZ (hw _ (List.mem_of_getElem? (i := 18) rfl))) (by decide) (backOf (W := 0) (rm3 l Z a0 hw [] b4 w3 c3 T9.heap n0 Z9 Fw9 S9' Fc9) hZ (hw _ (List.mem_of_getElem? (i := 20) rfl)) (hw _ (List.mem_of_getElem? (i := 3) rfl)) (by decide) (by decide)) q10a q10c (g := (mkF m 93 #[.val (.long q1), .second, .val (.int p2), .val (.int p3), .val (.int kk6), .val (.ref b4), .val (.int (F3 (FP.l2d (240000 : Int64)) FP.dconst1)), .val (.int (F3 (FP.l2d (240000 : Int64)) c3)), .val (.int (0 : Int32)), .unset, .unset] [(.ref b4)])) rfl (by rw [hml]; rfl) (Steps.refl _) (argsL := []) (rest := []) (lenOf pd_0_1 rfl) rfl (by show 2 * 0 + _ ≤ _; exact Nat.le_of_eq rfl) (hb hby at_93) (fun _ _ => ⟨rfl, rfl, (by decide : 1 + 0 ≤ _), (by decide : 2 + 0 ≤ _)⟩)
  dsimp only [Pt.U, Pt.locs, Pt.cells, Pt.slots] at X10 l10 y10 z10 st10 hQ10
  subst l10 y10 z10
  obtain ⟨rfl, N10q, eh10⟩ := hQ10
  have N10 := Fr.app N9 N10q
  obtain ⟨fs, hr, hrun, hended, hW, hsame⟩ := X10.leave (v := some (.int (1 : Int32))) (fun h => by rw [Bd.returns] at h; cases h)
  refine ⟨_, _, pre0 _ ?_, hrun, hended, _, _, rfl, ?_, ⟨_, rfl⟩, hW, hsame.mono (by decide) (by decide)⟩
  · show Steps p.tables e below (s₁.setTop (mkF m 0 #[.val (.long q1), .second, .val (.int p2), .val (.int p3), .unset, .unset, .unset, .unset, .unset, .unset, .unset] [])) _
    refine XS.iconst X0.here hx rfl (hb hby at_0) ?_
    show Steps p.tables e below (s₁.setTop (mkF m 1 #[.val (.long q1), .second, .val (.int p2), .val (.int p3), .unset, .unset, .unset, .unset, .unset, .unset, .unset] [(.int (1 : Int32))])) _
    refine XS.iloadN X0.here hx rfl (hb hby at_1) rfl ?_
    show Steps p.tables e below (s₁.setTop (mkF m 2 #[.val (.long q1), .second, .val (.int p2), .val (.int p3), .unset, .unset, .unset, .unset, .unset, .unset, .unset] [(.int p2), (.int (1 : Int32))])) _
    refine X0.ldcInt hx hown (mvT hZ (hw _ (List.mem_of_getElem? (i := 0) rfl))) (g := (mkF m 2 #[.val (.long q1), .second, .val (.int p2), .val (.int p3), .unset, .unset, .unset, .unset, .unset, .unset, .unset] [(.int p2), (.int (1 : Int32))])) rfl (hb hby at_2) _ ?_
    show Steps p.tables e below (s₁.setTop (mkF m 4 #[.val (.long q1), .second, .val (.int p2), .val (.int p3), .unset, .unset, .unset, .unset, .unset, .unset, .unset] [(.int (1073741823 : Int32)), (.int p2), (.int (1 : Int32))])) _
    refine XS.iand X0.here hx rfl (hb hby at_4) rfl ?_
    show Steps p.tables e below (s₁.setTop (mkF m 5 #[.val (.long q1), .second, .val (.int p2), .val (.int p3), .unset, .unset, .unset, .unset, .unset, .unset, .unset] [(.int (p2 &&& (1073741823 : Int32))), (.int (1 : Int32))])) _
    refine XS.iadd X0.here hx rfl (hb hby at_5) rfl ?_
    show Steps p.tables e below (s₁.setTop (mkF m 6 #[.val (.long q1), .second, .val (.int p2), .val (.int p3), .unset, .unset, .unset, .unset, .unset, .unset, .unset] [(.int ((1 : Int32) + (p2 &&& (1073741823 : Int32))))])) _
    refine XS.istore X0.here hx rfl (hb hby at_6) rfl (l' := #[.val (.long q1), .second, .val (.int p2), .val (.int p3), .val (.int ((1 : Int32) + (p2 &&& (1073741823 : Int32)))), .unset, .unset, .unset, .unset, .unset, .unset]) rfl ?_
    show Steps p.tables e below (s₁.setTop (mkF m 8 #[.val (.long q1), .second, .val (.int p2), .val (.int p3), .val (.int ((1 : Int32) + (p2 &&& (1073741823 : Int32)))), .unset, .unset, .unset, .unset, .unset, .unset] [])) _
    rw [hk6]
    show Steps p.tables e below (s₁.setTop (mkF m 8 #[.val (.long q1), .second, .val (.int p2), .val (.int p3), .val (.int kk6), .unset, .unset, .unset, .unset, .unset, .unset] [])) _
    refine st4 _ ?_
    show Steps p.tables e below (T4.setTop (mkF m 11 #[.val (.long q1), .second, .val (.int p2), .val (.int p3), .val (.int kk6), .unset, .unset, .unset, .unset, .unset, .unset] [(.ref b4)])) _
    refine XS.dup X4.here hx rfl (hb hby at_11) rfl rfl ?_
    show Steps p.tables e below (T4.setTop (mkF m 12 #[.val (.long q1), .second, .val (.int p2), .val (.int p3), .val (.int kk6), .unset, .unset, .unset, .unset, .unset, .unset] [(.ref b4), (.ref b4)])) _
    refine st5.trans ?_
    show Steps p.tables e below (T5.setTop (mkF m 15 #[.val (.long q1), .second, .val (.int p2), .val (.int p3), .val (.int kk6), .unset, .unset, .unset, .unset, .unset, .unset] [(.ref b4)])) _
    refine XS.astore X5.here hx rfl (hb hby at_15) rfl rfl (l' := #[.val (.long q1), .second, .val (.int p2), .val (.int p3), .val (.int kk6), .val (.ref b4), .unset, .unset, .unset, .unset, .unset]) rfl ?_
    show Steps p.tables e below (T5.setTop (mkF m 17 #[.val (.long q1), .second, .val (.int p2), .val (.int p3), .val (.int kk6), .val (.ref b4), .unset, .unset, .unset, .unset, .unset] [])) _
    refine XS.aload X5.here hx rfl (hb hby at_17) rfl rfl ?_
    show Steps p.tables e below (T5.setTop (mkF m 19 #[.val (.long q1), .second, .val (.int p2), .val (.int p3), .val (.int kk6), .val (.ref b4), .unset, .unset, .unset, .unset, .unset] [(.ref b4)])) _
    refine st6.trans ?_
    show Steps p.tables e below (T6.setTop (mkF m 22 #[.val (.long q1), .second, .val (.int p2), .val (.int p3), .val (.int kk6), .val (.ref b4), .unset, .unset, .unset, .unset, .unset] [(.int (F3 (FP.l2d (240000 : Int64)) FP.dconst1))])) _
    refine XS.istore X6.here hx rfl (hb hby at_22) rfl (l' := #[.val (.long q1), .second, .val (.int p2), .val (.int p3), .val (.int kk6), .val (.ref b4), .val (.int (F3 (FP.l2d (240000 : Int64)) FP.dconst1)), .unset, .unset, .unset, .unset]) rfl ?_
    show Steps p.tables e below (T6.setTop (mkF m 24 #[.val (.long q1), .second, .val (.int p2), .val (.int p3), .val (.int kk6), .val (.ref b4), .val (.int (F3 (FP.l2d (240000 : Int64)) FP.dconst1)), .unset, .unset, .unset, .unset] [])) _
    refine XS.iloadN X6.here hx rfl (hb hby at_24) rfl ?_
    show Steps p.tables e below (T6.setTop (mkF m 25 #[.val (.long q1), .second, .val (.int p2), .val (.int p3), .val (.int kk6), .val (.ref b4), .val (.int (F3 (FP.l2d (240000 : Int64)) FP.dconst1)), .unset, .unset, .unset, .unset] [(.int p3)])) _
    refine XS.iconst X6.here hx rfl (hb hby at_25) ?_
    show Steps p.tables e below (T6.setTop (mkF m 26 #[.val (.long q1), .second, .val (.int p2), .val (.int p3), .val (.int kk6), .val (.ref b4), .val (.int (F3 (FP.l2d (240000 : Int64)) FP.dconst1)), .unset, .unset, .unset, .unset] [(.int (1 : Int32)), (.int p3)])) _
    refine XS.iand X6.here hx rfl (hb hby at_26) rfl ?_
    show Steps p.tables e below (T6.setTop (mkF m 27 #[.val (.long q1), .second, .val (.int p2), .val (.int p3), .val (.int kk6), .val (.ref b4), .val (.int (F3 (FP.l2d (240000 : Int64)) FP.dconst1)), .unset, .unset, .unset, .unset] [(.int (p3 &&& (1 : Int32)))])) _
    refine XS.ifYes X6.here hx rfl (pc0 := 27) (pc' := 68) rfl (hb hby at_27) rfl ((if0 _ _).trans (teq hc27).1) (by decide) (by decide) ?_
    show Steps p.tables e below (T6.setTop (mkF m 68 #[.val (.long q1), .second, .val (.int p2), .val (.int p3), .val (.int kk6), .val (.ref b4), .val (.int (F3 (FP.l2d (240000 : Int64)) FP.dconst1)), .unset, .unset, .unset, .unset] [])) _
    refine XS.aload X6.here hx rfl (hb hby at_68) rfl rfl ?_
    show Steps p.tables e below (T6.setTop (mkF m 70 #[.val (.long q1), .second, .val (.int p2), .val (.int p3), .val (.int kk6), .val (.ref b4), .val (.int (F3 (FP.l2d (240000 : Int64)) FP.dconst1)), .unset, .unset, .unset, .unset] [(.ref b4)])) _
    refine XS.iload X6.here hx rfl (hb hby at_70) rfl ?_
    show Steps p.tables e below (T6.setTop (mkF m 72 #[.val (.long q1), .second, .val (.int p2), .val (.int p3), .val (.int kk6), .val (.ref b4), .val (.int (F3 (FP.l2d (240000 : Int64)) FP.dconst1)), .unset, .unset, .unset, .unset] [(.int kk6), (.ref b4)])) _
    refine st7.trans ?_
    show Steps p.tables e below (T7.setTop (mkF m 75 #[.val (.long q1), .second, .val (.int p2), .val (.int p3), .val (.int kk6), .val (.ref b4), .val (.int (F3 (FP.l2d (240000 : Int64)) FP.dconst1)), .unset, .unset, .unset, .unset] [])) _
    refine XS.aload X7.here hx rfl (hb hby at_75) rfl rfl ?_
    show Steps p.tables e below (T7.setTop (mkF m 77 #[.val (.long q1), .second, .val (.int p2), .val (.int p3), .val (.int kk6), .val (.ref b4), .val (.int (F3 (FP.l2d (240000 : Int64)) FP.dconst1)), .unset, .unset, .unset, .unset] [(.ref b4)])) _
    refine st8.trans ?_
    show Steps p.tables e below (T8.setTop (mkF m 80 #[.val (.long q1), .second, .val (.int p2), .val (.int p3), .val (.int kk6), .val (.ref b4), .val (.int (F3 (FP.l2d (240000 : Int64)) FP.dconst1)), .unset, .unset, .unset, .unset] [(.int (F3 (FP.l2d (240000 : Int64)) c3))])) _
    refine XS.istore X8.here hx rfl (hb hby at_80) rfl (l' := #[.val (.long q1), .second, .val (.int p2), .val (.int p3), .val (.int kk6), .val (.ref b4), .val (.int (F3 (FP.l2d (240000 : Int64)) FP.dconst1)), .val (.int (F3 (FP.l2d (240000 : Int64)) c3)), .unset, .unset, .unset]) rfl ?_
    show Steps p.tables e below (T8.setTop (mkF m 82 #[.val (.long q1), .second, .val (.int p2), .val (.int p3), .val (.int kk6), .val (.ref b4), .val (.int (F3 (FP.l2d (240000 : Int64)) FP.dconst1)), .val (.int (F3 (FP.l2d (240000 : Int64)) c3)), .unset, .unset, .unset] [])) _
    refine XS.iconst X8.here hx rfl (hb hby at_82) ?_
    show Steps p.tables e below (T8.setTop (mkF m 83 #[.val (.long q1), .second, .val (.int p2), .val (.int p3), .val (.int kk6), .val (.ref b4), .val (.int (F3 (FP.l2d (240000 : Int64)) FP.dconst1)), .val (.int (F3 (FP.l2d (240000 : Int64)) c3)), .unset, .unset, .unset] [(.int (0 : Int32))])) _
    refine XS.istore X8.here hx rfl (hb hby at_83) rfl (l' := #[.val (.long q1), .second, .val (.int p2), .val (.int p3), .val (.int kk6), .val (.ref b4), .val (.int (F3 (FP.l2d (240000 : Int64)) FP.dconst1)), .val (.int (F3 (FP.l2d (240000 : Int64)) c3)), .val (.int (0 : Int32)), .unset, .unset]) rfl ?_
    show Steps p.tables e below (T8.setTop (mkF m 85 #[.val (.long q1), .second, .val (.int p2), .val (.int p3), .val (.int kk6), .val (.ref b4), .val (.int (F3 (FP.l2d (240000 : Int64)) FP.dconst1)), .val (.int (F3 (FP.l2d (240000 : Int64)) c3)), .val (.int (0 : Int32)), .unset, .unset] [])) _
    refine XS.aload X8.here hx rfl (hb hby at_85) rfl rfl ?_
    show Steps p.tables e below (T8.setTop (mkF m 87 #[.val (.long q1), .second, .val (.int p2), .val (.int p3), .val (.int kk6), .val (.ref b4), .val (.int (F3 (FP.l2d (240000 : Int64)) FP.dconst1)), .val (.int (F3 (FP.l2d (240000 : Int64)) c3)), .val (.int (0 : Int32)), .unset, .unset] [(.ref b4)])) _
    refine XS.lloadN X8.here hx rfl (hb hby at_87) rfl ?_
    show Steps p.tables e below (T8.setTop (mkF m 88 #[.val (.long q1), .second, .val (.int p2), .val (.int p3), .val (.int kk6), .val (.ref b4), .val (.int (F3 (FP.l2d (240000 : Int64)) FP.dconst1)), .val (.int (F3 (FP.l2d (240000 : Int64)) c3)), .val (.int (0 : Int32)), .unset, .unset] [(.long q1), (.ref b4)])) _
    refine st9.trans ?_
    show Steps p.tables e below (T9.setTop (mkF m 91 #[.val (.long q1), .second, .val (.int p2), .val (.int p3), .val (.int kk6), .val (.ref b4), .val (.int (F3 (FP.l2d (240000 : Int64)) FP.dconst1)), .val (.int (F3 (FP.l2d (240000 : Int64)) c3)), .val (.int (0 : Int32)), .unset, .unset] [])) _
    refine XS.aload X9.here hx rfl (hb hby at_91) rfl rfl ?_
    show Steps p.tables e below (T9.setTop (mkF m 93 #[.val (.long q1), .second, .val (.int p2), .val (.int p3), .val (.int kk6), .val (.ref b4), .val (.int (F3 (FP.l2d (240000 : Int64)) FP.dconst1)), .val (.int (F3 (FP.l2d (240000 : Int64)) c3)), .val (.int (0 : Int32)), .unset, .unset] [(.ref b4)])) _
    refine st10.trans ?_
    show Steps p.tables e below (T10.setTop (mkF m 96 #[.val (.long q1), .second, .val (.int p2), .val (.int p3), .val (.int kk6), .val (.ref b4), .val (.int (F3 (FP.l2d (240000 : Int64)) FP.dconst1)), .val (.int (F3 (FP.l2d (240000 : Int64)) c3)), .val (.int (0 : Int32)), .unset, .unset] [(.int (F3 w3 c3))])) _
    refine XS.istore X10.here hx rfl (hb hby at_96) rfl (l' := #[.val (.long q1), .second, .val (.int p2), .val (.int p3), .val (.int kk6), .val (.ref b4), .val (.int (F3 (FP.l2d (240000 : Int64)) FP.dconst1)), .val (.int (F3 (FP.l2d (240000 : Int64)) c3)), .val (.int (0 : Int32)), .val (.int (F3 w3 c3)), .unset]) rfl ?_
    show Steps p.tables e below (T10.setTop (mkF m 98 #[.val (.long q1), .second, .val (.int p2), .val (.int p3), .val (.int kk6), .val (.ref b4), .val (.int (F3 (FP.l2d (240000 : Int64)) FP.dconst1)), .val (.int (F3 (FP.l2d (240000 : Int64)) c3)), .val (.int (0 : Int32)), .val (.int (F3 w3 c3)), .unset] [])) _
    refine XS.lloadN X10.here hx rfl (hb hby at_98) rfl ?_
    show Steps p.tables e below (T10.setTop (mkF m 99 #[.val (.long q1), .second, .val (.int p2), .val (.int p3), .val (.int kk6), .val (.ref b4), .val (.int (F3 (FP.l2d (240000 : Int64)) FP.dconst1)), .val (.int (F3 (FP.l2d (240000 : Int64)) c3)), .val (.int (0 : Int32)), .val (.int (F3 w3 c3)), .unset] [(.long q1)])) _
    refine X10.ldc2Long hx hown (mvT hZ (hw _ (List.mem_of_getElem? (i := 33) rfl))) (g := (mkF m 99 #[.val (.long q1), .second, .val (.int p2), .val (.int p3), .val (.int kk6), .val (.ref b4), .val (.int (F3 (FP.l2d (240000 : Int64)) FP.dconst1)), .val (.int (F3 (FP.l2d (240000 : Int64)) c3)), .val (.int (0 : Int32)), .val (.int (F3 w3 c3)), .unset] [(.long q1)])) rfl (hb hby at_99) _ ?_
    show Steps p.tables e below (T10.setTop (mkF m 102 #[.val (.long q1), .second, .val (.int p2), .val (.int p3), .val (.int kk6), .val (.ref b4), .val (.int (F3 (FP.l2d (240000 : Int64)) FP.dconst1)), .val (.int (F3 (FP.l2d (240000 : Int64)) c3)), .val (.int (0 : Int32)), .val (.int (F3 w3 c3)), .unset] [(.long (-1440000 : Int64)), (.long q1)])) _
    refine XS.lcmp X10.here hx rfl (hb hby at_102) rfl ?_
    show Steps p.tables e below (T10.setTop (mkF m 103 #[.val (.long q1), .second, .val (.int p2), .val (.int p3), .val (.int kk6), .val (.ref b4), .val (.int (F3 (FP.l2d (240000 : Int64)) FP.dconst1)), .val (.int (F3 (FP.l2d (240000 : Int64)) c3)), .val (.int (0 : Int32)), .val (.int (F3 w3 c3)), .unset] [(.int (lcmpW q1 (-1440000 : Int64)))])) _
    refine XS.ifYes X10.here hx rfl (pc0 := 103) (pc' := 116) rfl (hb hby at_103) rfl ((if0 _ _).trans (flt hc103).2.1) (by decide) (by decide) ?_
    show Steps p.tables e below (T10.setTop (mkF m 116 #[.val (.long q1), .second, .val (.int p2), .val (.int p3), .val (.int kk6), .val (.ref b4), .val (.int (F3 (FP.l2d (240000 : Int64)) FP.dconst1)), .val (.int (F3 (FP.l2d (240000 : Int64)) c3)), .val (.int (0 : Int32)), .val (.int (F3 w3 c3)), .unset] [])) _
    refine XS.iconst X10.here hx rfl (hb hby at_116) ?_
    show Steps p.tables e below (T10.setTop (mkF m 117 #[.val (.long q1), .second, .val (.int p2), .val (.int p3), .val (.int kk6), .val (.ref b4), .val (.int (F3 (FP.l2d (240000 : Int64)) FP.dconst1)), .val (.int (F3 (FP.l2d (240000 : Int64)) c3)), .val (.int (0 : Int32)), .val (.int (F3 w3 c3)), .unset] [(.int (0 : Int32))])) _
    refine XS.istore X10.here hx rfl (hb hby at_117) rfl (l' := #[.val (.long q1), .second, .val (.int p2), .val (.int p3), .val (.int kk6), .val (.ref b4), .val (.int (F3 (FP.l2d (240000 : Int64)) FP.dconst1)), .val (.int (F3 (FP.l2d (240000 : Int64)) c3)), .val (.int (0 : Int32)), .val (.int (F3 w3 c3)), .val (.int (0 : Int32))]) rfl ?_
    show Steps p.tables e below (T10.setTop (mkF m 119 #[.val (.long q1), .second, .val (.int p2), .val (.int p3), .val (.int kk6), .val (.ref b4), .val (.int (F3 (FP.l2d (240000 : Int64)) FP.dconst1)), .val (.int (F3 (FP.l2d (240000 : Int64)) c3)), .val (.int (0 : Int32)), .val (.int (F3 w3 c3)), .val (.int (0 : Int32))] [])) _
    refine XS.iload X10.here hx rfl (hb hby at_119) rfl ?_
    show Steps p.tables e below (T10.setTop (mkF m 121 #[.val (.long q1), .second, .val (.int p2), .val (.int p3), .val (.int kk6), .val (.ref b4), .val (.int (F3 (FP.l2d (240000 : Int64)) FP.dconst1)), .val (.int (F3 (FP.l2d (240000 : Int64)) c3)), .val (.int (0 : Int32)), .val (.int (F3 w3 c3)), .val (.int (0 : Int32))] [(.int (F3 (FP.l2d (240000 : Int64)) FP.dconst1))])) _
    refine XS.ifNo X10.here hx rfl (hb hby at_121) rfl ((if0 _ _).trans (teq hq1).2) ?_
    show Steps p.tables e below (T10.setTop (mkF m 124 #[.val (.long q1), .second, .val (.int p2), .val (.int p3), .val (.int kk6), .val (.ref b4), .val (.int (F3 (FP.l2d (240000 : Int64)) FP.dconst1)), .val (.int (F3 (FP.l2d (240000 : Int64)) c3)), .val (.int (0 : Int32)), .val (.int (F3 w3 c3)), .val (.int (0 : Int32))] [])) _
    refine XS.iload X10.here hx rfl (hb hby at_124) rfl ?_
    show Steps p.tables e below (T10.setTop (mkF m 126 #[.val (.long q1), .second, .val (.int p2), .val (.int p3), .val (.int kk6), .val (.ref b4), .val (.int (F3 (FP.l2d (240000 : Int64)) FP.dconst1)), .val (.int (F3 (FP.l2d (240000 : Int64)) c3)), .val (.int (0 : Int32)), .val (.int (F3 w3 c3)), .val (.int (0 : Int32))] [(.int (F3 (FP.l2d (240000 : Int64)) c3))])) _
    refine XS.iload X10.here hx rfl (hb hby at_126) rfl ?_
    show Steps p.tables e below (T10.setTop (mkF m 128 #[.val (.long q1), .second, .val (.int p2), .val (.int p3), .val (.int kk6), .val (.ref b4), .val (.int (F3 (FP.l2d (240000 : Int64)) FP.dconst1)), .val (.int (F3 (FP.l2d (240000 : Int64)) c3)), .val (.int (0 : Int32)), .val (.int (F3 w3 c3)), .val (.int (0 : Int32))] [(.int (0 : Int32)), (.int (F3 (FP.l2d (240000 : Int64)) c3))])) _
    refine XS.icmpNo X10.here hx rfl (hb hby at_128) rfl (teq hq2).2 ?_
    show Steps p.tables e below (T10.setTop (mkF m 131 #[.val (.long q1), .second, .val (.int p2), .val (.int p3), .val (.int kk6), .val (.ref b4), .val (.int (F3 (FP.l2d (240000 : Int64)) FP.dconst1)), .val (.int (F3 (FP.l2d (240000 : Int64)) c3)), .val (.int (0 : Int32)), .val (.int (F3 w3 c3)), .val (.int (0 : Int32))] [])) _
    refine XS.iload X10.here hx rfl (hb hby at_131) rfl ?_
    show Steps p.tables e below (T10.setTop (mkF m 133 #[.val (.long q1), .second, .val (.int p2), .val (.int p3), .val (.int kk6), .val (.ref b4), .val (.int (F3 (FP.l2d (240000 : Int64)) FP.dconst1)), .val (.int (F3 (FP.l2d (240000 : Int64)) c3)), .val (.int (0 : Int32)), .val (.int (F3 w3 c3)), .val (.int (0 : Int32))] [(.int (F3 w3 c3))])) _
    refine XS.iload X10.here hx rfl (hb hby at_133) rfl ?_
    show Steps p.tables e below (T10.setTop (mkF m 135 #[.val (.long q1), .second, .val (.int p2), .val (.int p3), .val (.int kk6), .val (.ref b4), .val (.int (F3 (FP.l2d (240000 : Int64)) FP.dconst1)), .val (.int (F3 (FP.l2d (240000 : Int64)) c3)), .val (.int (0 : Int32)), .val (.int (F3 w3 c3)), .val (.int (0 : Int32))] [(.int (0 : Int32)), (.int (F3 w3 c3))])) _
    refine XS.icmpNo X10.here hx rfl (hb hby at_135) rfl (teq hq3).2 ?_
    show Steps p.tables e below (T10.setTop (mkF m 138 #[.val (.long q1), .second, .val (.int p2), .val (.int p3), .val (.int kk6), .val (.ref b4), .val (.int (F3 (FP.l2d (240000 : Int64)) FP.dconst1)), .val (.int (F3 (FP.l2d (240000 : Int64)) c3)), .val (.int (0 : Int32)), .val (.int (F3 w3 c3)), .val (.int (0 : Int32))] [])) _
    refine XS.iconst X10.here hx rfl (hb hby at_138) ?_
    show Steps p.tables e below (T10.setTop (mkF m 139 #[.val (.long q1), .second, .val (.int p2), .val (.int p3), .val (.int kk6), .val (.ref b4), .val (.int (F3 (FP.l2d (240000 : Int64)) FP.dconst1)), .val (.int (F3 (FP.l2d (240000 : Int64)) c3)), .val (.int (0 : Int32)), .val (.int (F3 w3 c3)), .val (.int (0 : Int32))] [(.int (1 : Int32))])) _
    refine XS.goto X10.here hx rfl (pc0 := 139) (pc' := 143) rfl (hb hby at_139) (by decide) (by decide) ?_
    show Steps p.tables e below (T10.setTop (mkF m 143 #[.val (.long q1), .second, .val (.int p2), .val (.int p3), .val (.int kk6), .val (.ref b4), .val (.int (F3 (FP.l2d (240000 : Int64)) FP.dconst1)), .val (.int (F3 (FP.l2d (240000 : Int64)) c3)), .val (.int (0 : Int32)), .val (.int (F3 w3 c3)), .val (.int (0 : Int32))] [(.int (1 : Int32))])) _
    exact retN X10 hx (t := .boolean) Bd.returns (by simp) (hb hby at_143) hr
  · show QL n0 _ T10.heap _
    exact ⟨rfl, N10⟩
def w1 (q : Int64) : UInt64 := FP.dsub (FP.l2d (F5 q (240000 : Int64))) (FP.l2d (240000 : Int64))
def w2 (q : Int64) : UInt64 := FP.ddiv (w1 q) (4620693217682128896 : UInt64)
def w3 (q : Int64) : UInt64 := FP.dadd (FP.l2d (240000 : Int64)) (w2 q)
def c1 (c : Int32) : UInt64 := FP.dsub (FP.i2d c) FP.dconst1
def c2 (c : Int32) : UInt64 := FP.ddiv (c1 c) (4620693217682128896 : UInt64)
def c3 (c : Int32) : UInt64 := FP.dadd FP.dconst1 (c2 c)
theorem own_8 : Dy 8 0 (4620693217682128896 : UInt64) := by
  have h : FP.l2d 8 = (4620693217682128896 : UInt64) := by decide +kernel
  have q := Dy.l2d (i := 8) (by decide)
  rw [h] at q; exact q
theorem own_15 : Dy 12 3 (4609434218613702656 : UInt64) := ⟨⟨false, 6755399441055744, -52, by decide +kernel⟩, by decide +kernel⟩
theorem own_240 : Dy 240000 0 (FP.l2d (240000 : Int64)) := Dy.l2d (i := 240000) (by decide)
theorem own_30 : Dy 30000 0 (FP.l2d (30000 : Int64)) := Dy.l2d (i := 30000) (by decide)
theorem own_F5 (q : Int64) : (F5 q (240000 : Int64)).toInt = min q.toInt 240000 := by
  unfold F5
  have e := lw_gt q (240000 : Int64)
  rw [Int64.lt_iff_toInt_lt, show (240000 : Int64).toInt = 240000 from rfl] at e
  by_cases h : 240000 < q.toInt
  · rw [if_pos (e.mpr h), show (240000 : Int64).toInt = 240000 from rfl]; omega
  · rw [if_neg (fun z => h (e.mp z))]; omega
theorem own_8eq : ((2 ^ 3 : Nat) : Int) = 8 := rfl
theorem own_1eq : ((2 ^ 0 : Nat) : Int) = 1 := rfl
theorem own_Wnear (q : Int64) (h : -1125899906842624 ≤ q.toInt) : Jvm.Free.Fl.NoNaN64 (w1 q) ∧ Jvm.Free.Fl.NoNaN64 (w2 q) ∧ Jvm.Free.Fl.NoNaN64 (w3 q) ∧ (cmpValue (FP.dcmp (w3 q) (FP.l2d (30000 : Int64))) .g < (0 : Int32) ↔ q.toInt < -1440000) := by
  have e := own_F5 q
  have A := Dy.l2d (i := F5 q (240000 : Int64)) (by omega)
  have B := A.sub own_240 (by omega)
  have B2 := B.div own_8 (N := (F5 q (240000 : Int64)).toInt - 240000) (r := 3) (by decide) (by decide) (by decide) (by decide) (by rw [own_8eq, own_1eq]; omega) (by omega)
  have O := own_240.up (m := 1920000) (l := 3) 3 rfl (by decide) (by rw [own_8eq]; rfl)
  have B3 := O.add B2 (by omega)
  have T := own_30.up (m := 240000) (l := 3) 3 rfl (by decide) (by rw [own_8eq]; rfl)
  refine ⟨B.nn, B2.nn, B3.nn, ?_⟩
  have c := B3.lt0 T .g
  refine Iff.trans c ?_
  omega
theorem own_lo63 : -1 * ((2 ^ 1137 : Nat) : Int) ≤ own_z (FP.l2d (-9223372036854775808)) := by decide +kernel
theorem own_nz (q : Int64) : Jvm.FP.Core.val64 (FP.l2d q) ≠ .nan := (own_fin_l2d q).ne_nan
theorem own_Wfar (q : Int64) (h : q.toInt < -1125899906842624) : Jvm.Free.Fl.NoNaN64 (w1 q) ∧ Jvm.Free.Fl.NoNaN64 (w2 q) ∧ Jvm.Free.Fl.NoNaN64 (w3 q) ∧ (cmpValue (FP.dcmp (w3 q) (FP.l2d (30000 : Int64))) .g < (0 : Int32) ↔ q.toInt < -1440000) := by
  have e : F5 q (240000 : Int64) = q := Int64.toInt_inj.mp ((own_F5 q).trans (by omega))
  have g := Int64.le_toInt q
  have zO : own_z (FP.l2d (-1125899906842624)) = -1125899906842624 * ((2 ^ 1074 : Nat) : Int) := own_z_l2d (i := -1125899906842624) (by decide)
  have p := own_pow_pos 1074
  have P : ((2 ^ 1137 : Nat) : Int) = 9223372036854775808 * ((2 ^ 1074 : Nat) : Int) := by decide +kernel
  have P2 : ((2 ^ 1138 : Nat) : Int) = 18446744073709551616 * ((2 ^ 1074 : Nat) : Int) := by decide +kernel
  have hi : own_z (FP.l2d q) ≤ own_z (FP.l2d (-1125899906842624)) := by
    refine Jvm.FP.Core.l2d_zval_le (n := q) (own_nz (-1125899906842624)) ?_
    have r : q.toInt * ((2 ^ 1074 : Nat) : Int) ≤ -1125899906842624 * ((2 ^ 1074 : Nat) : Int) := Int.mul_le_mul_of_nonneg_right (by omega) (Int.le_of_lt p)
    rw [← zO] at r; exact r
  have lo : own_z (FP.l2d (-9223372036854775808)) ≤ own_z (FP.l2d q) := by
    refine Jvm.FP.Core.l2d_zval_ge (n := q) (own_nz (-9223372036854775808)) ?_
    have r : -9223372036854775808 * ((2 ^ 1074 : Nat) : Int) ≤ q.toInt * ((2 ^ 1074 : Nat) : Int) := Int.mul_le_mul_of_nonneg_right (by omega) (Int.le_of_lt p)
    have z : own_z (FP.l2d (-9223372036854775808)) = -9223372036854775808 * ((2 ^ 1074 : Nat) : Int) := by decide +kernel
    rw [← z] at r; exact r
  have lo2 := own_lo63
  rw [zO] at hi
  have f0 := own_fin_l2d q
  have fB := own_fin_neg own_240.fin
  have zB : own_z (FP.dneg (FP.l2d (240000 : Int64))) = -240000 * ((2 ^ 1074 : Nat) : Int) := by rw [own_z_neg, own_240.2]; exact (Int.neg_mul _ _).symm
  have w1e : w1 q = FP.dadd (FP.l2d q) (FP.dneg (FP.l2d (240000 : Int64))) := by unfold w1; rw [e, own_sub_eq own_240.fin]
  have n1 := own_add_nn f0 fB
  have u1 := own_add_le f0 fB (N := -1125899906842624) (j := 1074) (by decide) (by decide) (by rw [zB]; generalize ((2 ^ 1074 : Nat) : Int) = O at *; omega)
  have l1 := own_add_ge f0 fB (N := -1) (j := 1138) (by decide) (by decide) (by rw [zB, P2]; rw [P] at lo2; generalize ((2 ^ 1074 : Nat) : Int) = O at *; omega)
  rw [← w1e] at n1 u1 l1
  have f1 : Jvm.FP.Core.DFin (w1 q) := own_fin n1 (N := 1) (j := 1138) (by decide) (by decide) (by omega) (by rw [P2]; generalize ((2 ^ 1074 : Nat) : Int) = O at *; omega)
  have z8 : own_z (4620693217682128896 : UInt64) = 8 * ((2 ^ 1074 : Nat) : Int) := own_8.2
  have p8 := own_8.pos (by decide)
  have n2 := own_div_nn f1 own_8.fin (Int.ne_of_gt p8)
  have u2 := own_div_le f1 own_8.fin p8 (N := -140737488355328) (j := 1074) (by decide) (by decide) (by
    rw [z8]
    have r := Int.mul_le_mul_of_nonneg_right u1 (Int.le_of_lt p)
    generalize ((2 ^ 1074 : Nat) : Int) = O at *
    rw [show -140737488355328 * O * (8 * O) = -1125899906842624 * O * O by rw [← Int.mul_assoc, Int.mul_right_comm (-140737488355328) O 8, show (-140737488355328 : Int) * 8 = -1125899906842624 from rfl]]
    exact r)
  have l2 := own_div_ge f1 own_8.fin p8 (N := -1) (j := 1138) (by decide) (by decide) (by
    rw [z8]
    have r := Int.mul_le_mul_of_nonneg_right l1 (Int.le_of_lt p)
    have p3 := own_pow_pos 1138
    generalize ((2 ^ 1138 : Nat) : Int) = X at *
    generalize ((2 ^ 1074 : Nat) : Int) = O at *
    have r2 := Int.mul_pos p3 p
    rw [show -1 * X * (8 * O) = -8 * (X * O) by rw [Int.neg_one_mul, Int.neg_mul, ← Int.mul_assoc X 8 O, Int.mul_comm X 8, Int.mul_assoc, ← Int.neg_mul]]
    rw [show -1 * X * O = -(X * O) by rw [Int.neg_one_mul, Int.neg_mul]] at r
    omega)
  have f2 : Jvm.FP.Core.DFin (w2 q) := own_fin n2 (N := 1) (j := 1138) (by decide) (by decide) (by have l2' : -1 * ((2 ^ 1138 : Nat) : Int) ≤ own_z (w2 q) := l2; omega) (by have u2' : own_z (w2 q) ≤ -140737488355328 * ((2 ^ 1074 : Nat) : Int) := u2; rw [P2]; generalize ((2 ^ 1074 : Nat) : Int) = O at *; omega)
  have n3 := own_add_nn own_240.fin f2
  have z240 : own_z (FP.l2d (240000 : Int64)) = 240000 * ((2 ^ 1074 : Nat) : Int) := own_240.2
  have u2' : own_z (w2 q) ≤ -140737488355328 * ((2 ^ 1074 : Nat) : Int) := u2
  have u3 := own_add_le own_240.fin f2 (N := -140737488115328) (j := 1074) (by decide) (by decide) (by rw [z240]; generalize ((2 ^ 1074 : Nat) : Int) = O at *; omega)
  refine ⟨own_nn' n1, own_nn' n2, own_nn' n3, ?_⟩
  have c := own_lt0 n3 own_30.fin.ne_nan .g
  refine Iff.trans c ?_
  have z30 : own_z (FP.l2d (30000 : Int64)) = 30000 * ((2 ^ 1074 : Nat) : Int) := own_30.2
  rw [z30]
  exact ⟨fun _ => by omega, fun _ => by generalize ((2 ^ 1074 : Nat) : Int) = O at *; omega⟩
theorem own_W (q : Int64) : Jvm.Free.Fl.NoNaN64 (w1 q) ∧ Jvm.Free.Fl.NoNaN64 (w2 q) ∧ Jvm.Free.Fl.NoNaN64 (w3 q) ∧ (cmpValue (FP.dcmp (w3 q) (FP.l2d (30000 : Int64))) .g < (0 : Int32) ↔ q.toInt < -1440000) := by
  by_cases h : -1125899906842624 ≤ q.toInt
  · exact own_Wnear q h
  · exact own_Wfar q (by omega)
theorem own_one3 : Dy 8 3 FP.dconst1 := Dy.one.up 3 rfl (by decide) (by rw [own_8eq]; rfl)
theorem own_C (c : Int32) (h1 : 1 ≤ c.toInt) : Jvm.Free.Fl.NoNaN64 (c1 c) ∧ Jvm.Free.Fl.NoNaN64 (c2 c) ∧ Jvm.Free.Fl.NoNaN64 (c3 c) ∧ (cmpValue (FP.dcmp (c3 c) (4609434218613702656 : UInt64)) .g < (0 : Int32) ↔ c.toInt < 5) := by
  have h2 := Int32.toInt_lt c
  have B := (Dy.i2d c).sub Dy.one (by omega)
  have B2 := B.div own_8 (N := c.toInt - 1) (r := 3) (by decide) (by decide) (by decide) (by decide) (by rw [own_8eq, own_1eq]; omega) (by omega)
  have B3 := own_one3.add B2 (by omega)
  refine ⟨B.nn, B2.nn, B3.nn, ?_⟩
  refine Iff.trans (B3.lt0 own_15 .g) ?_
  omega
theorem own_F3 (u w : UInt64) {P Q : Prop} [Decidable P] [Decidable Q] (h1 : cmpValue (FP.dcmp u (FP.l2d (30000 : Int64))) .g < (0 : Int32) ↔ P) (h2 : cmpValue (FP.dcmp w (4609434218613702656 : UInt64)) .g < (0 : Int32) ↔ Q) : F3 u w = if P ∧ Q then 1 else 0 := by
  unfold F3
  simp only [h1, h2]
  by_cases p : P
  · by_cases q : Q
    · rw [if_pos p, if_pos q, if_pos ⟨p, q⟩]
    · rw [if_pos p, if_neg q, if_neg (fun z => q z.2)]
  · rw [if_neg p, if_neg (fun z => p z.1)]
theorem own_w0 : cmpValue (FP.dcmp (FP.l2d (240000 : Int64)) (FP.l2d (30000 : Int64))) .g < (0 : Int32) ↔ False := (own_240.lt0 own_30 .g).trans (by decide)
theorem own_c0 : cmpValue (FP.dcmp FP.dconst1 (4609434218613702656 : UInt64)) .g < (0 : Int32) ↔ True := (own_one3.lt0 own_15 .g).trans (by decide)
theorem own_cc (p : Int32) : 1 ≤ ((1 : Int32) + (p &&& (1073741823 : Int32))).toInt := by
  have h1 := c_and p (1073741823 : Int32) (by decide)
  have h2 := c_iadd (1 : Int32) (p &&& (1073741823 : Int32))
  have h3 := Int32.toInt_lt ((1 : Int32) + (p &&& (1073741823 : Int32)))
  have h4 := Int32.le_toInt ((1 : Int32) + (p &&& (1073741823 : Int32)))
  rw [show (1073741823 : Int32).toInt = 1073741823 from rfl] at h1
  rw [show (1 : Int32).toInt = 1 from rfl] at h2
  omega
theorem rm0 (l : Launch) (Z : State) (a0 : Array Value) (hw : ∀ d ∈ tables_1, d.before a0 Z = true) (ws : List Jvm.Cond) (q1 : Int64) (p2 : Int32) (p3 : Int32) (h0 : Heap) (n0 : Nat) (Z0 : n0 ≤ h0.size) (S0 : Sta Z h0 "com/example/tanager/tanager/Polling" "LONGEST_WAIT_COUNTED" "J" (.long (240000 : Int64))) (S0' : Sta Z h0 "com/example/tanager/tanager/Polling" "NANOS" "J" (.long (30000 : Int64))) :
    MetFree l x (head1 (Jvm.Cond.code x code maxLocals ret :: ws) room_1) (fun a U => a = #[(.long q1), (.int p2), (.int p3)] ∧ Z.Warmed39 U.vm ∧ U.heap = h0) (fun _ _ _ _ _ => True) (fun _ U o U' => ∃ v L, o = .returned v ∧ QL n0 v U'.heap L ∧ FrameEnd U o U' L room_1.cells room_1.slots) := by
  have hc1 := own_cc p2
  generalize hk6 : ((1 : Int32) + (p2 &&& (1073741823 : Int32))) = kk6 at *
  obtain ⟨a1, a2, a3, aw⟩ := own_W q1
  obtain ⟨b1, b2, b3, bc⟩ := own_C kk6 hc1
  have z1 := own_F3 (FP.l2d (240000 : Int64)) FP.dconst1 own_w0 own_c0
  have z2 := own_F3 (w3 q1) FP.dconst1 aw own_c0
  have z3 := own_F3 (w3 q1) (c3 kk6) aw bc
  have z4 := own_F3 (FP.l2d (240000 : Int64)) (c3 kk6) own_w0 bc
  have z1' : F3 (FP.l2d (240000 : Int64)) FP.dconst1 = 0 := z1.trans (if_neg (fun z => z.1))
  have z4' : F3 (FP.l2d (240000 : Int64)) (c3 kk6) = 0 := z4.trans (if_neg (fun z => z.1))
  have lw := lw_lt q1 (-1440000 : Int64)
  rw [Int64.lt_iff_toInt_lt, show (-1440000 : Int64).toInt = -1440000 from rfl] at lw
  have lc : kk6 < (5 : Int32) ↔ kk6.toInt < 5 := by rw [Int32.lt_iff_toInt_lt]; rfl
  by_cases f : (p3 &&& (1 : Int32)) = (0 : Int32)
  · by_cases w : q1.toInt < -1440000
    · by_cases c : kk6.toInt < 5
      · exact rm0_tfffff l Z a0 hw ws q1 p2 p3 kk6 _ _ _ _ _ _ h0 n0 Z0 hk6 rfl a1 rfl a2 rfl a3 rfl b1 rfl b2 rfl b3 S0 S0' f (lw.mpr w) (lc.mpr c) z1' z4' (z3.trans (if_pos ⟨w, c⟩))
      · exact rm0_tftfff l Z a0 hw ws q1 p2 p3 kk6 _ _ _ _ _ _ h0 n0 Z0 hk6 rfl a1 rfl a2 rfl a3 rfl b1 rfl b2 rfl b3 S0 S0' f (lw.mpr w) (fun z => c (lc.mp z)) z1' z4' (z3.trans (if_neg (fun z => c z.2)))
    · exact rm0_ttfff l Z a0 hw ws q1 p2 p3 kk6 _ _ _ _ _ _ h0 n0 Z0 hk6 rfl a1 rfl a2 rfl a3 rfl b1 rfl b2 rfl b3 S0 S0' f (fun z => w (lw.mp z)) z1' z4' (z3.trans (if_neg (fun z => w z.1)))
  · by_cases w : q1.toInt < -1440000
    · by_cases c : kk6.toInt < 5
      · exact rm0_fffffff l Z a0 hw ws q1 p2 p3 kk6 _ _ _ _ _ _ h0 n0 Z0 hk6 rfl a1 rfl a2 rfl a3 rfl b1 rfl b2 rfl b3 S0 S0' f (lw.mpr w) (lw.mpr w) (lc.mpr c) z1' (z2.trans (if_pos ⟨w, trivial⟩)) (z3.trans (if_pos ⟨w, c⟩))
      · exact rm0_ffftfff l Z a0 hw ws q1 p2 p3 kk6 _ _ _ _ _ _ h0 n0 Z0 hk6 rfl a1 rfl a2 rfl a3 rfl b1 rfl b2 rfl b3 S0 S0' f (lw.mpr w) (lw.mpr w) (fun z => c (lc.mp z)) z1' (z2.trans (if_pos ⟨w, trivial⟩)) (z3.trans (if_neg (fun z => c z.2)))
    · exact rm0_fttfff l Z a0 hw ws q1 p2 p3 kk6 _ _ _ _ _ _ h0 n0 Z0 hk6 rfl a1 rfl a2 rfl a3 rfl b1 rfl b2 rfl b3 S0 S0' f (fun z => w (lw.mp z)) (fun z => w (lw.mp z)) z1' (z2.trans (if_neg (fun z => w z.1))) (z3.trans (if_neg (fun z => w z.1)))
set_option maxRecDepth 65536 in
set_option maxHeartbeats 40000000 in
theorem comes_1 {Post : Tables → Env → Array Value → State → Outcome → State → Prop} (hpost : ∀ tb e args s v u, (limb_1_1.after args s (.returned v) u = true ∧ limb_1_2.after args s (.returned v) u = true ∧ True) → FrameEnd s (.returned v) u (Jvm.fieldLocs frame_1_writes args s ++ Jvm.arrayLocs frame_1_arrays args s ++ Jvm.staticLocs frame_1_statics s) 16 128 → Post tb e args s (.returned v) u) :
    ArmFor flags0 classFile x code maxLocals ret World_1 tables_1 room_1 Calls_1 rest_1 Pre_1 Post := by
  intro l hfl _ _ p e ha hc hk s m args below hf hA hF happ hP
  obtain ⟨hcalls, hrest, hpre⟩ := hP
  obtain ⟨-, -, -, hnamed, -, -, -, hat⟩ := (Spec.applies_iff hf).mp happ
  obtain ⟨hg, hn⟩ := and_e (Cond.before_iff.mp (show (Jvm.Cond.and given_1 narrow_1).before args s = true from hpre))
  obtain ⟨g11, g12⟩ := and_e hg
  obtain ⟨g13, g14⟩ := and_e g12
  obtain ⟨g15, g16⟩ := and_e g14
  obtain ⟨w0, w1, w2, rfl⟩ : ∃ w0 w1 w2 : Value, args = #[w0, w1, w2] := by
    have hs : args.size = 3 := by simpa [Cond.value, given_1] using g11
    obtain ⟨L⟩ := args
    match L, hs with
    | [w0, w1, w2], _ => exact ⟨w0, w1, w2, rfl⟩
  have hw := fun d (hd : d ∈ tables_1) => atoms_spec (ws := Jvm.Cond.code x code maxLocals ret :: tables_1) hat d (List.mem_cons_of_mem _ hd)
  have hfit : Fit s := fun {y c} hc i hi => by
    obtain ⟨ha, rfl⟩ := Array.getElem?_eq_some_iff.mp hc
    have q := List.all_eq_true.mp ((Array.all_eq_true_iff_forall_mem.mp hF) _ (Array.getElem_mem ha)) i (List.mem_range.mpr hi)
    simpa [Array.getElem?_eq_getElem hi] using q
  obtain ⟨i0, ei0⟩ := isL_v g13
  obtain rfl : w0 = (.long i0) := Option.some.inj ei0
  obtain ⟨i1, ei1⟩ := is_v g15
  obtain rfl : w1 = (.int i1) := Option.some.inj ei1
  obtain ⟨i2, ei2⟩ := is_v g16
  obtain rfl : w2 = (.int i2) := Option.some.inj ei2
  obtain ⟨na, nb⟩ := and_e hn
  have S0 : Sta s s.heap "com/example/tanager/tanager/Polling" "LONGEST_WAIT_COUNTED" "J" (.long (240000 : Int64)) := Sta.start (eqv_l rfl na) (Or.inr ⟨hw _ (List.mem_of_getElem? (i := 3) rfl), hw _ (List.mem_of_getElem? (i := 11) rfl)⟩)
  have S0' : Sta s s.heap "com/example/tanager/tanager/Polling" "NANOS" "J" (.long (30000 : Int64)) := Sta.start (eqv_l rfl nb) (Or.inr ⟨hw _ (List.mem_of_getElem? (i := 3) rfl), hw _ (List.mem_of_getElem? (i := 22) rfl)⟩)
  obtain ⟨n, o, h1, h2, h3, _, L, rfl, ⟨rfl, N⟩, hq⟩ := rm0 l s _ hw tables_1 i0 i1 i2 s.heap s.heap.size (Nat.le_refl _) S0 S0' p e ha hc hk s m _ below hf ((Spec.applies_iff_loose hf).mp happ).1 ⟨rfl, State.Warmed39.refl s, rfl⟩ trivial
  refine ⟨n, _, h1, h2, h3, hpost _ _ _ _ _ _ ⟨Cond.after_iff.mpr rfl, Cond.after_iff.mpr (eq_i res_at (Term.int_eval (1)) rfl), trivial⟩ ⟨hq.1, hq.2.1, (hq.2.2.sift fun y hy => Or.inr (N y hy)).mono (by decide) (by decide)⟩⟩
theorem main_1_1 : Claimed_1_1 := comes_1 fun _ _ _ _ _ _ h hF => ⟨h.1, hF⟩
theorem main_1_2 : Claimed_1_2 := comes_1 fun _ _ _ _ _ _ h hF => ⟨h.2.1, hF⟩

end Jvm.Pilot.@@N@@
namespace Jvm.Pilot.@@N@@
open Jvm Jvm.ClassFile Sem Op Lib Jvm.Free Jvm.Stand Jvm.Pilot.@@N@@.Jvm.D
/-! MADE BY PROGRAM (witnessworld.py) out of the Statement's table words and the real class files: 10 classes; the members and pool entries that the words name. The judged class is class 1, her method 1. -/
namespace start1
open Jvm.ClassFile
def u (s : String) : CpInfo := .utf8 (stringToUtf16 s)
/-- a pool by its gaps: so many unusable entries, then the entry; so many at the end -/
def gap : Nat → List CpInfo → List CpInfo
  | 0, r => r
  | n + 1, r => .unusable :: gap n r
def poolList (es : List (Nat × CpInfo)) (last : Nat) : List CpInfo := es.foldr (fun e r => gap e.1 (e.2 :: r)) (gap last [])
def pool (es : List (Nat × CpInfo)) (last : Nat) : Array CpInfo := ⟨poolList es last⟩
def fileOf (pool : Array CpInfo) (this : Nat) (attrs : Array Attribute := #[]) (ms : Array MethodInfo := #[]) (fl : Nat := 33) (sup : Nat := 0) (ifs : Array Nat := #[]) (fds : Array FieldInfo := #[]) : ClassFile where
  minorVersion := 0
  majorVersion := 65
  constantPool := pool
  accessFlags := fl
  thisClass := this
  superClass := sup
  interfaces := ifs
  fields := fds
  methods := ms
  attributes := attrs
def plain (name : String) (sup : Option ClassId) : Class where
  name := name
  kind := .ordinary
  loader := none
  accessFlags := 33
  super := sup
  interfaces := #[]
  cf := none
  fields := #[]
  methods := #[]
  instanceTypes := #[]
  staticTypes := #[]
  resolved := #[]
  callSites := []
  init := .initialized
  statics := none
  mirror := none

def pool0 : Array CpInfo := pool [(5, u "<init>"), (0, u "()V"), (1, .class_ 10), (1, u "java/lang/Object")] 113

def k0c0 : Code := { maxStack := 0, maxLocals := 1, code := object_method_1_code, exceptionTable := #[], attributes := #[] }
def k0m0 : Method := { name := "<init>", desc := "()V", sig := { parameters := [], returnType := none }, accessFlags := 1, code := some k0c0 }
/-- java/lang/Object -/
def k0 : Class := { plain "java/lang/Object" none with
  accessFlags := 33
  interfaces := #[]
  cf := some (fileOf pool0 8 #[] #[{ accessFlags := 1, nameIndex := 5, descriptorIndex := 6, attributes := #[] }] 33 0 #[] #[])
  fields := #[]
  methods := #[k0m0]
  instanceTypes := #[]
  staticTypes := #[]
  resolved := Array.replicate 124 none
  statics := none }

def pool1 : Array CpInfo := pool [(2, .class_ 4), (0, .nameAndType 5 6), (0, u "java/lang/Object"), (0, u "<init>"), (0, u "()V"), (0, .integer 1073741823), (0, .class_ 9), (0, u "com/example/tanager/tanager/Polling"), (0, .methodref 8 3), (0, .methodref 8 12), (0, .nameAndType 13 14), (0, u "worthIt"), (0, u "()Z"), (0, .methodref 8 16), (0, .nameAndType 17 18), (0, u "waited"), (0, u "(J)V"), (0, .long 18446744073708111616), (1, .methodref 8 22), (0, .nameAndType 23 24), (0, u "counted"), (0, u "(I)V"), (0, .class_ 26), (0, u "com/example/tanager/tanager/PollingWorthItPinLaw"), (2, u "law"), (0, u "(JII)Z")] 3

def k1m0 : Method := { name := "<init>", desc := "()V", sig := { parameters := [], returnType := none }, accessFlags := 1, code := none }
def k1c1 : Code := { maxStack := 4, maxLocals := 11, code := code, exceptionTable := #[], attributes := #[] }
def k1m1 : Method := { name := "law", desc := "(JII)Z", sig := { parameters := [.long, .int, .int], returnType := some .boolean }, accessFlags := 9, code := some k1c1 }
/-- com/example/tanager/tanager/PollingWorthItPinLaw -/
def k1 : Class := { plain "com/example/tanager/tanager/PollingWorthItPinLaw" (some 0) with
  accessFlags := 49
  interfaces := #[]
  cf := some (fileOf pool1 25 #[] #[{ accessFlags := 1, nameIndex := 5, descriptorIndex := 6, attributes := #[] }, { accessFlags := 9, nameIndex := 29, descriptorIndex := 30, attributes := #[] }] 49 2 #[] #[])
  fields := #[]
  methods := #[k1m0, k1m1]
  instanceTypes := #[]
  staticTypes := #[]
  resolved := Array.replicate 34 none
  statics := none }

def pool2 : Array CpInfo := pool [(1, .methodref 2 3), (0, .class_ 4), (0, .nameAndType 5 6), (0, u "java/lang/Object"), (0, u "<init>"), (0, u "()V"), (0, .fieldref 8 9), (0, .class_ 10), (0, .nameAndType 11 12), (0, u "com/example/tanager/tanager/Polling"), (0, u "LONGEST_WAIT_COUNTED"), (0, u "J"), (0, .fieldref 8 14), (0, .nameAndType 15 16), (0, u "recentWaitNanos"), (0, u "D"), (0, .fieldref 8 18), (0, .nameAndType 19 16), (0, u "recentCalls"), (0, .fieldref 8 21), (0, .nameAndType 22 12), (0, u "NANOS"), (0, .double 4609434218613702656), (1, .methodref 26 27), (0, .class_ 28), (0, .nameAndType 29 30), (0, u "java/lang/Math"), (0, u "min"), (0, u "(JJ)J"), (0, .double 4620693217682128896), (17, u "worthIt"), (0, u "()Z"), (1, u "waited"), (0, u "(J)V"), (0, u "counted"), (0, u "(I)V")] 3

def k2c0 : Code := { maxStack := 3, maxLocals := 1, code := prog_64_method_1_code, exceptionTable := #[], attributes := #[] }
def k2m0 : Method := { name := "<init>", desc := "()V", sig := { parameters := [], returnType := none }, accessFlags := 0, code := some k2c0 }
def k2c1 : Code := { maxStack := 4, maxLocals := 1, code := prog_64_method_2_code, exceptionTable := #[], attributes := #[] }
def k2m1 : Method := { name := "worthIt", desc := "()Z", sig := { parameters := [], returnType := some .boolean }, accessFlags := 0, code := some k2c1 }
def k2c2 : Code := { maxStack := 7, maxLocals := 5, code := prog_64_method_3_code, exceptionTable := #[], attributes := #[] }
def k2m2 : Method := { name := "waited", desc := "(J)V", sig := { parameters := [.long], returnType := none }, accessFlags := 0, code := some k2c2 }
def k2c3 : Code := { maxStack := 7, maxLocals := 4, code := prog_64_method_4_code, exceptionTable := #[], attributes := #[] }
def k2m3 : Method := { name := "counted", desc := "(I)V", sig := { parameters := [.int], returnType := none }, accessFlags := 0, code := some k2c3 }
/-- com/example/tanager/tanager/Polling -/
def k2 : Class := { plain "com/example/tanager/tanager/Polling" (some 0) with
  accessFlags := 48
  interfaces := #[]
  cf := some (fileOf pool2 8 #[] #[{ accessFlags := 0, nameIndex := 5, descriptorIndex := 6, attributes := #[] }, { accessFlags := 0, nameIndex := 49, descriptorIndex := 50, attributes := #[] }, { accessFlags := 0, nameIndex := 52, descriptorIndex := 53, attributes := #[] }, { accessFlags := 0, nameIndex := 54, descriptorIndex := 55, attributes := #[] }] 48 2 #[] #[{ accessFlags := 24, nameIndex := 22, descriptorIndex := 12, attributes := #[] }, { accessFlags := 26, nameIndex := 11, descriptorIndex := 12, attributes := #[] }, { accessFlags := 66, nameIndex := 15, descriptorIndex := 16, attributes := #[] }, { accessFlags := 66, nameIndex := 19, descriptorIndex := 16, attributes := #[] }])
  fields := #[{ name := "NANOS", type := .long, accessFlags := 24, slot := 0, constantValue := 0 }, { name := "LONGEST_WAIT_COUNTED", type := .long, accessFlags := 26, slot := 1, constantValue := 0 }, { name := "recentWaitNanos", type := .double, accessFlags := 66, slot := 0, constantValue := 0 }, { name := "recentCalls", type := .double, accessFlags := 66, slot := 1, constantValue := 0 }]
  methods := #[k2m0, k2m1, k2m2, k2m3]
  instanceTypes := #[.double, .double]
  staticTypes := #[.long, .long]
  resolved := Array.replicate 59 none
  statics := some 0 }

def pool3 : Array CpInfo := pool [(1, .class_ 2), (0, u "java/lang/Math"), (1, .class_ 6), (1, u "java/lang/Object"), (0, u "<init>"), (0, u "()V"), (89, .class_ 100), (1, u "java/lang/Math$RandomNumberGeneratorHolder"), (20, u "(JJ)J"), (50, u "negativeZeroFloatBits"), (0, u "J"), (2, u "negativeZeroDoubleBits"), (24, u "min"), (43, u "$assertionsDisabled"), (0, u "Z"), (91, u "twoToTheDoubleScaleDown"), (0, u "D"), (4, u "twoToTheDoubleScaleUp"), (9, u "E"), (3, u "PI"), (2, u "TAU"), (2, u "DEGREES_TO_RADIANS"), (0, u "RADIANS_TO_DEGREES")] 94

def k3m0 : Method := { name := "<init>", desc := "()V", sig := { parameters := [], returnType := none }, accessFlags := 2, code := none }
def k3c1 : Code := { maxStack := 4, maxLocals := 4, code := jdk_29_method_70_code, exceptionTable := #[], attributes := #[] }
def k3m1 : Method := { name := "min", desc := "(JJ)J", sig := { parameters := [.long, .long], returnType := some .long }, accessFlags := 9, code := some k3c1 }
/-- java/lang/Math -/
def k3 : Class := { plain "java/lang/Math" (some 0) with
  accessFlags := 49
  interfaces := #[]
  cf := some (fileOf pool3 1 #[.nestMembers #[98]] #[{ accessFlags := 2, nameIndex := 7, descriptorIndex := 8, attributes := #[] }, { accessFlags := 9, nameIndex := 201, descriptorIndex := 121, attributes := #[] }] 49 4 #[] #[{ accessFlags := 25, nameIndex := 354, descriptorIndex := 339, attributes := #[] }, { accessFlags := 25, nameIndex := 358, descriptorIndex := 339, attributes := #[] }, { accessFlags := 25, nameIndex := 361, descriptorIndex := 339, attributes := #[] }, { accessFlags := 26, nameIndex := 364, descriptorIndex := 339, attributes := #[] }, { accessFlags := 26, nameIndex := 365, descriptorIndex := 339, attributes := #[] }, { accessFlags := 26, nameIndex := 172, descriptorIndex := 173, attributes := #[] }, { accessFlags := 26, nameIndex := 176, descriptorIndex := 173, attributes := #[] }, { accessFlags := 8, nameIndex := 344, descriptorIndex := 339, attributes := #[] }, { accessFlags := 8, nameIndex := 338, descriptorIndex := 339, attributes := #[] }, { accessFlags := 4120, nameIndex := 245, descriptorIndex := 246, attributes := #[] }])
  fields := #[{ name := "E", type := .double, accessFlags := 25, slot := 0, constantValue := 0 }, { name := "PI", type := .double, accessFlags := 25, slot := 1, constantValue := 0 }, { name := "TAU", type := .double, accessFlags := 25, slot := 2, constantValue := 0 }, { name := "DEGREES_TO_RADIANS", type := .double, accessFlags := 26, slot := 3, constantValue := 0 }, { name := "RADIANS_TO_DEGREES", type := .double, accessFlags := 26, slot := 4, constantValue := 0 }, { name := "negativeZeroFloatBits", type := .long, accessFlags := 26, slot := 5, constantValue := 0 }, { name := "negativeZeroDoubleBits", type := .long, accessFlags := 26, slot := 6, constantValue := 0 }, { name := "twoToTheDoubleScaleUp", type := .double, accessFlags := 8, slot := 7, constantValue := 0 }, { name := "twoToTheDoubleScaleDown", type := .double, accessFlags := 8, slot := 8, constantValue := 0 }, { name := "$assertionsDisabled", type := .boolean, accessFlags := 4120, slot := 9, constantValue := 0 }]
  methods := #[k3m0, k3m1]
  instanceTypes := #[]
  staticTypes := #[.double, .double, .double, .double, .double, .long, .long, .double, .double, .boolean]
  resolved := Array.replicate 460 none
  statics := none }

def pool4 : Array CpInfo := pool [(1, u "java/lang/Cloneable"), (0, .class_ 1), (0, u "java/lang/Object"), (0, .class_ 3)] 3

/-- java/lang/Cloneable -/
def k4 : Class := { plain "java/lang/Cloneable" (some 0) with
  accessFlags := 1537
  interfaces := #[]
  cf := some (fileOf pool4 2 #[] #[] 1537 4 #[] #[])
  fields := #[]
  methods := #[]
  instanceTypes := #[]
  staticTypes := #[]
  resolved := Array.replicate 8 none
  statics := none }

def pool5 : Array CpInfo := pool [(1, u "java/io/Serializable"), (0, .class_ 1), (0, u "java/lang/Object"), (0, .class_ 3)] 3

/-- java/io/Serializable -/
def k5 : Class := { plain "java/io/Serializable" (some 0) with
  accessFlags := 1537
  interfaces := #[]
  cf := some (fileOf pool5 2 #[] #[] 1537 4 #[] #[])
  fields := #[]
  methods := #[]
  instanceTypes := #[]
  staticTypes := #[]
  resolved := Array.replicate 8 none
  statics := none }

/-- the primitive byte -/
def k6 : Class := { plain "byte" none with kind := .primitive 'B', accessFlags := 0x411 }
/-- [B -/
def k7 : Class := { plain "[B" (some 0) with kind := .array 6 .byte, interfaces := #[4, 5], accessFlags := 1041 }

/-- the primitive int -/
def k8 : Class := { plain "int" none with kind := .primitive 'I', accessFlags := 0x411 }
/-- [I -/
def k9 : Class := { plain "[I" (some 0) with kind := .array 8 .int, interfaces := #[4, 5], accessFlags := 1041 }

def heap : Heap := #[{ cls := 2, slots := #[.long 30000, .long 240000], vm := .statics 2 }]
def classes : Array Class := #[k0, k1, k2, k3, k4, k5, k6, k7, k8, k9]
def interned : List (Array UInt16 × Addr) := []
def slotsUsed : Nat := 2
def theMethod : MethodId := ⟨1, 1⟩
def args0 : Array Value := #[.long 5, .int 7, .int 9]
def aboutOver (below : List Frame) : State where
  vm := { classes := classes, interned := interned.toArray }
  heap := heap
  slotsUsed := slotsUsed
  threads := #[{ frames := .invoking theMethod args0 :: below }]
def below0 : List Frame := [.native { method := ⟨0, 0⟩, args := #[] }]
def about1 : State := aboutOver below0
def p0 : Program := .bare "" "" ""
def e0 : Env := launch0.env 0 0 0
theorem w_frames : about1.frames = Frame.invoking theMethod args0 :: below0 := rfl
set_option maxRecDepth 65536 in
theorem w_args : argsFit about1.vm theMethod args0 = true := by decide +kernel
set_option maxRecDepth 65536 in
theorem w_heap : heapFits about1 = true := by decide +kernel
set_option maxRecDepth 65536 in
theorem w_runnable : about1.curStatus? = some .runnable := by decide +kernel
set_option maxRecDepth 65536 in
theorem w_alone : about1.alone = true := by decide +kernel
set_option maxRecDepth 65536 in
theorem w_named : about1.methodNamed? x = some theMethod := by decide +kernel
set_option maxRecDepth 65536 in
theorem w_hears : about1.hears theMethod below0 = true := by decide +kernel
set_option maxRecDepth 65536 in
theorem w_ripe : about1.ripe theMethod args0 below0 = true := by decide +kernel
theorem w_running : about1.status = .running := rfl
set_option maxRecDepth 65536 in
theorem w_room : about1.hasRoom e0.platform room_1 = true :=
  launch0.hasRoom_least _ room_1 (by decide +kernel) (by decide +kernel) (by decide +kernel) (by decide +kernel) (by decide +kernel) (by decide +kernel)
theorem allAtoms_all (ts : List Jvm.Cond) (a : Array Jvm.Value) (st : Jvm.State) : (allAtoms ts).before a st = ts.all (fun c => c.before a st) := by
  induction ts with
  | nil => rfl
  | cons c t ih =>
    show (Jvm.Cond.and c (allAtoms t)).before a st = _
    rw [Jvm.Cond.before_and, ih, List.all_cons]
def words1 : List Jvm.Cond := Jvm.Cond.code x code maxLocals ret :: tables_1
/-- a 'code' word, met by the world's own term for the bytes: nothing is compared byte by byte -/
theorem code_word {y : MethodName} {bytes : ByteArray} {mx : Nat} {rt : Option FieldType} {a : Array Value} {s : State} {m : MethodId} {meth : Method} {c : Code} (h1 : s.methodNamed? y = some m) (h2 : s.vm.method? m = some meth) (h3 : meth.code = some c) (h4 : c.code = bytes)
    (h5 : (c.maxLocals == mx && c.exceptionTable.isEmpty && decide (c.maxStack ≤ mostOperands) && decide (meth.sig.returnType = rt) && !meth.locks && decide (parseMethodDescriptor y.desc = some meth.sig)) = true) : (Jvm.Cond.code y bytes mx rt).before a s = true := by
  simp only [Bool.and_eq_true, beq_iff_eq, Bool.not_eq_true', decide_eq_true_eq] at h5
  obtain ⟨⟨⟨⟨⟨g1, g2⟩, g3⟩, g4⟩, g5⟩, g6⟩ := h5
  simp [Cond.before, Cond.holds, Cond.value, h1, h2, h3, h4, g1, g2, g3, g4, g5, g6]
def isCode : Jvm.Cond → Bool
  | .code _ _ _ _ => true
  | _ => false
theorem all_split {L : List Jvm.Cond} {P : Jvm.Cond → Bool} (h1 : L.all (fun c => isCode c || P c) = true) (h2 : ∀ c ∈ L.filter isCode, P c = true) : L.all P = true := by
  refine List.all_eq_true.mpr fun c hc => ?_
  have h := List.all_eq_true.mp h1 c hc
  rcases Bool.eq_false_or_eq_true (isCode c) with hi | hi
  · exact h2 c (List.mem_filter.mpr ⟨hc, hi⟩)
  · simpa [hi] using h
set_option maxRecDepth 65536 in
theorem w_c0 : (Jvm.Cond.code x code maxLocals ret).before args0 about1 = true := code_word (m := ⟨1, 1⟩) (meth := k1m1) (c := k1c1) (by decide +kernel) rfl rfl rfl (by decide +kernel)
set_option maxRecDepth 65536 in
theorem w_c1 : (Jvm.Cond.code ({ cls := "com/example/tanager/tanager/Polling", name := "<init>", desc := "()V" } : Jvm.MethodName) prog_64_method_1_code (1 : Nat) (Option.none : Option Jvm.ClassFile.FieldType)).before args0 about1 = true := code_word (m := ⟨2, 0⟩) (meth := k2m0) (c := k2c0) (by decide +kernel) rfl rfl rfl (by decide +kernel)
set_option maxRecDepth 65536 in
theorem w_c2 : (Jvm.Cond.code ({ cls := "java/lang/Object", name := "<init>", desc := "()V" } : Jvm.MethodName) object_method_1_code (1 : Nat) (Option.none : Option Jvm.ClassFile.FieldType)).before args0 about1 = true := code_word (m := ⟨0, 0⟩) (meth := k0m0) (c := k0c0) (by decide +kernel) rfl rfl rfl (by decide +kernel)
set_option maxRecDepth 65536 in
theorem w_c3 : (Jvm.Cond.code ({ cls := "com/example/tanager/tanager/Polling", name := "worthIt", desc := "()Z" } : Jvm.MethodName) prog_64_method_2_code (1 : Nat) (Option.some Jvm.ClassFile.FieldType.boolean)).before args0 about1 = true := code_word (m := ⟨2, 1⟩) (meth := k2m1) (c := k2c1) (by decide +kernel) rfl rfl rfl (by decide +kernel)
set_option maxRecDepth 65536 in
theorem w_c4 : (Jvm.Cond.code ({ cls := "com/example/tanager/tanager/Polling", name := "waited", desc := "(J)V" } : Jvm.MethodName) prog_64_method_3_code (5 : Nat) (Option.none : Option Jvm.ClassFile.FieldType)).before args0 about1 = true := code_word (m := ⟨2, 2⟩) (meth := k2m2) (c := k2c2) (by decide +kernel) rfl rfl rfl (by decide +kernel)
set_option maxRecDepth 65536 in
theorem w_c5 : (Jvm.Cond.code ({ cls := "java/lang/Math", name := "min", desc := "(JJ)J" } : Jvm.MethodName) jdk_29_method_70_code (4 : Nat) (Option.some Jvm.ClassFile.FieldType.long)).before args0 about1 = true := code_word (m := ⟨3, 1⟩) (meth := k3m1) (c := k3c1) (by decide +kernel) rfl rfl rfl (by decide +kernel)
set_option maxRecDepth 65536 in
theorem w_c6 : (Jvm.Cond.code ({ cls := "com/example/tanager/tanager/Polling", name := "counted", desc := "(I)V" } : Jvm.MethodName) prog_64_method_4_code (4 : Nat) (Option.none : Option Jvm.ClassFile.FieldType)).before args0 about1 = true := code_word (m := ⟨2, 3⟩) (meth := k2m3) (c := k2c3) (by decide +kernel) rfl rfl rfl (by decide +kernel)
def codes1 : List Jvm.Cond := [Jvm.Cond.code x code maxLocals ret, Jvm.Cond.code ({ cls := "com/example/tanager/tanager/Polling", name := "<init>", desc := "()V" } : Jvm.MethodName) prog_64_method_1_code (1 : Nat) (Option.none : Option Jvm.ClassFile.FieldType), Jvm.Cond.code ({ cls := "java/lang/Object", name := "<init>", desc := "()V" } : Jvm.MethodName) object_method_1_code (1 : Nat) (Option.none : Option Jvm.ClassFile.FieldType), Jvm.Cond.code ({ cls := "com/example/tanager/tanager/Polling", name := "worthIt", desc := "()Z" } : Jvm.MethodName) prog_64_method_2_code (1 : Nat) (Option.some Jvm.ClassFile.FieldType.boolean), Jvm.Cond.code ({ cls := "com/example/tanager/tanager/Polling", name := "waited", desc := "(J)V" } : Jvm.MethodName) prog_64_method_3_code (5 : Nat) (Option.none : Option Jvm.ClassFile.FieldType), Jvm.Cond.code ({ cls := "java/lang/Math", name := "min", desc := "(JJ)J" } : Jvm.MethodName) jdk_29_method_70_code (4 : Nat) (Option.some Jvm.ClassFile.FieldType.long), Jvm.Cond.code ({ cls := "com/example/tanager/tanager/Polling", name := "counted", desc := "(I)V" } : Jvm.MethodName) prog_64_method_4_code (4 : Nat) (Option.none : Option Jvm.ClassFile.FieldType)]
set_option maxRecDepth 65536 in
theorem codes_eq : words1.filter isCode = codes1 := rfl
theorem w_codes : ∀ c ∈ words1.filter isCode, c.before args0 about1 = true := by
  rw [codes_eq]
  intro c hc
  simp only [codes1, List.mem_cons, List.not_mem_nil, or_false] at hc
  rcases hc with rfl | rfl | rfl | rfl | rfl | rfl | rfl
  · exact w_c0
  · exact w_c1
  · exact w_c2
  · exact w_c3
  · exact w_c4
  · exact w_c5
  · exact w_c6
set_option maxRecDepth 65536 in
theorem w_t1 : (words1.take 24).all (fun c => isCode c || c.before args0 about1) = true := by decide +kernel
set_option maxRecDepth 65536 in
theorem w_t2 : (words1.drop 24).all (fun c => isCode c || c.before args0 about1) = true := by decide +kernel
theorem w_tables : (allAtoms (Jvm.Cond.code x code maxLocals ret :: tables_1)).before args0 about1 = true := by
  rw [allAtoms_all]
  show words1.all (fun c => c.before args0 about1) = true
  refine all_split ?_ w_codes
  rw [← List.take_append_drop 24 words1, List.all_append, w_t1, w_t2]
  rfl
set_option maxRecDepth 65536 in
theorem w_case : (Jvm.Cond.and given_1 narrow_1).before args0 about1 = true := by decide +kernel
theorem w_applies : (headSpec (Jvm.Cond.code x code maxLocals ret :: tables_1) room_1).applies x e0.platform about1 = true :=
  (Spec.applies_iff w_frames).mpr ⟨w_running, w_runnable, w_alone, w_named, w_hears, w_ripe, w_room, w_tables⟩
theorem atStart : AtStart classFile x code maxLocals ret World_1 tables_1 room_1 Calls_1 rest_1 Pre_1 launch0 p0 e0 about1 theMethod args0 below0 :=
  ⟨lists_1, trivial, launch0.admits_env _ _ _, launch0.least_env, fairChoices_fair.cas, fairChoices_fair.clock, w_frames, w_args, w_heap, w_applies, trivial, trivial, w_case⟩
end start1
theorem witness_1 : WitnessClaimed_1 := ⟨start1.p0, start1.e0, start1.about1, start1.theMethod, start1.args0, start1.below0, start1.atStart⟩
end Jvm.Pilot.@@N@@
