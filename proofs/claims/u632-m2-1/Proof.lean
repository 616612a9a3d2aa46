import JvmDerived
import JvmDerived.Pilot.@@N@@Statement
import JvmDerived.Pilot.@@N@@Code
set_option linter.unusedVariables false
set_option linter.unusedSimpArgs false
namespace Jvm.RoadKit
open Sem ClassFile Op Lib Jvm.Stand Jvm.Free Jvm.LawKit
section New
variable {p : Program} {l : Launch} {e : Env} {R : Room} {s : State} {m : MethodId} {args : Array Value} {below : List Frame} {meth : Method} {c : Code} {T : State} {locs : List Loc} {cells slots : Nat}
theorem retI (X : Stand p l e R s m args below meth c T locs cells slots) (hx : p.tables.exec = Jvm.exec) {pc : Nat} {Ls : Array Slot} {z : Int32} {rest : List Value} (hret : meth.sig.returnType = some .int) (hd : decode c.code pc = .ok (.ireturn, 1)) {fs : List Frame}
    (hl : ∀ (f : JFrame) (acts : List Action), f.method = m → f.locked = none → f.entered = [] → (doReturn e (T.setTop f) acts (some (.int z))).1 = T.setFrames fs) : Steps p.tables e below (T.setTop (mkF m pc Ls (.int z :: rest))) (T.setFrames fs) := by
  have hm' : T.vm.method? m = some meth := X.method'
  have hn : narrow .int (.int z) = .int z := rfl
  show Steps p.tables e below (T.setTop { method := m, pc := pc, locals := Ls, stack := _ :: rest, locked := none }) _
  jvm_step X.here [X.here.top, hx, hd, hm', hret, hn]
  first | (intro acts; rw [hl _ acts rfl rfl rfl]) | rw [hl _ _ rfl rfl rfl]
  exact Steps.refl _
end New
end Jvm.RoadKit
namespace Jvm.Pilot.@@N@@
section OwnFl
open Jvm.FP.Core
/-- a double's value in units of 2^-1074 -/
def own_z (a : UInt64) : Int := zval b64 (val64 a)
theorem own_signed (N : Int) : signed (decide (N < 0)) N.natAbs = N := by
  unfold signed
  by_cases h : N < 0
  · simp only [h, decide_true, if_true]; omega
  · simp only [h, decide_false, Bool.false_eq_true, if_false]; omega
theorem own_qmax : b64.qmax = 971 := by decide
theorem own_p : b64.p = 53 := rfl
theorem own_rep {N : Int} {j : Nat} (hN : N.natAbs < 2 ^ 53) (hj : j ≤ 2045) :
    ∃ V : Datum, Jvm.FP.Core.fits b64 V ∧ V ≠ .nan ∧ (∀ s, V ≠ .inf s) ∧ zval b64 V = N * ((2 ^ j : Nat) : Int) := by
  obtain ⟨c', q', h1, h2⟩ := round_exact good_b64 (decide (N < 0)) (c := N.natAbs) (q := (j : Int) - 1074) hN (by rw [qmin_b64]; omega) (by rw [own_qmax]; omega)
  refine ⟨.fin (decide (N < 0)) c' q', h1 ▸ round_fits good_b64 _, by simp, by simp, ?_⟩
  show signed (decide (N < 0)) (inUnits c' q' b64.qmin) = _
  rw [h2]
  unfold inUnits
  rw [qmin_b64, signed_mul, own_signed, show ((j : Int) - 1074 - -1074).toNat = j by omega]
theorem own_top {V : Datum} (h1 : Jvm.FP.Core.fits b64 V) (h2 : V ≠ .nan) (h3 : ∀ s, V ≠ .inf s) : zmag b64 V < b64.tails * 2 ^ (b64.exps - 2) := by
  cases V with
  | nan => exact absurd rfl h2
  | inf s => exact absurd rfl (h3 s)
  | fin s c q => exact zmag_lt_top good_b64 h1
theorem own_zabs (d : Datum) : (zval b64 d).natAbs = zmag b64 d := natAbs_signed _ _
theorem own_fin {a : UInt64} (hn : val64 a ≠ .nan) {N : Int} {j : Nat} (hN : N.natAbs < 2 ^ 53) (hj : j ≤ 2045)
    (h1 : -(N * ((2 ^ j : Nat) : Int)) ≤ own_z a) (h2 : own_z a ≤ N * ((2 ^ j : Nat) : Int)) : DFin a := by
  obtain ⟨V, f1, f2, f3, f4⟩ := own_rep hN hj
  have t := own_top f1 f2 f3
  rw [← f4] at h1 h2
  have e1 := own_zabs V
  have e2 := own_zabs (val64 a)
  have e3 : own_z a = zval b64 (val64 a) := rfl
  cases hd : val64 a with
  | nan => exact absurd hd hn
  | inf s =>
    rw [hd] at e2 e3
    have e4 : zmag b64 (.inf s) = b64.tails * 2 ^ (b64.exps - 2) := rfl
    rw [e4] at e2
    generalize b64.tails * 2 ^ (b64.exps - 2) = X at *
    omega
  | fin s c q => exact ⟨s, c, q, hd⟩
theorem own_nn {a : UInt64} (h : DFin a) : Jvm.Free.Fl.NoNaN64 a := (Jvm.Free.Fl.fin64_core.mpr h).noNaN
theorem own_z_neg (a : UInt64) : own_z (Jvm.FP.dneg a) = -own_z a := by
  unfold own_z
  rw [Jvm.FP.val64_dneg, zval_negate]
theorem own_fin_neg {a : UInt64} (h : DFin a) : DFin (Jvm.FP.dneg a) := by
  obtain ⟨s, c, q, h⟩ := h
  exact ⟨!s, c, q, by rw [Jvm.FP.val64_dneg, h]; rfl⟩
-- sums
theorem own_add_nn {a b : UInt64} (ha : DFin a) (hb : DFin b) : val64 (Jvm.FP.dadd a b) ≠ .nan := (notNaN_iff _).mp (dadd_out ha.notNaN hb)
theorem own_add_le {a b : UInt64} (ha : DFin a) (hb : DFin b) {N : Int} {j : Nat} (hN : N.natAbs < 2 ^ 53) (hj : j ≤ 2045)
    (h : own_z a + own_z b ≤ N * ((2 ^ j : Nat) : Int)) : own_z (Jvm.FP.dadd a b) ≤ N * ((2 ^ j : Nat) : Int) := by
  obtain ⟨V, f1, f2, -, f4⟩ := own_rep hN hj
  have q := sum_le good_b64 ha hb (val64_fits a) (val64_fits b) f1 f2 (by rw [f4]; exact h)
  rw [f4, ← val64_dadd] at q
  exact q
theorem own_add_ge {a b : UInt64} (ha : DFin a) (hb : DFin b) {N : Int} {j : Nat} (hN : N.natAbs < 2 ^ 53) (hj : j ≤ 2045)
    (h : N * ((2 ^ j : Nat) : Int) ≤ own_z a + own_z b) : N * ((2 ^ j : Nat) : Int) ≤ own_z (Jvm.FP.dadd a b) := by
  obtain ⟨V, f1, f2, -, f4⟩ := own_rep hN hj
  have q := sum_ge good_b64 ha hb (val64_fits a) (val64_fits b) f1 f2 (by rw [f4]; exact h)
  rw [f4, ← val64_dadd] at q
  exact q
theorem own_fin_abs {a : UInt64} (hn : val64 a ≠ .nan) {N : Int} {j : Nat} (hN : N.natAbs < 2 ^ 53) (hj : j ≤ 2045) (h : own_z a = N * ((2 ^ j : Nat) : Int)) : DFin a := by
  have p : (0 : Int) ≤ ((2 ^ j : Nat) : Int) := Int.natCast_nonneg _
  by_cases s : 0 ≤ N
  · have := Int.mul_nonneg s p
    exact own_fin hn hN hj (by omega) (by omega)
  · have q := Int.mul_nonneg (show (0 : Int) ≤ -N by omega) p
    rw [Int.neg_mul] at q
    refine own_fin hn (N := -N) (j := j) (by omega) hj ?_ ?_ <;> rw [Int.neg_mul] <;> omega
theorem own_add {a b : UInt64} (ha : DFin a) (hb : DFin b) {N : Int} {j : Nat} (hN : N.natAbs < 2 ^ 53) (hj : j ≤ 2045)
    (h : own_z a + own_z b = N * ((2 ^ j : Nat) : Int)) : DFin (Jvm.FP.dadd a b) ∧ own_z (Jvm.FP.dadd a b) = N * ((2 ^ j : Nat) : Int) := by
  have q : own_z (Jvm.FP.dadd a b) = N * ((2 ^ j : Nat) : Int) := by
    have h1 := own_add_le ha hb hN hj (Int.le_of_eq h)
    have h2 := own_add_ge ha hb hN hj (Int.le_of_eq h.symm)
    omega
  exact ⟨own_fin_abs (own_add_nn ha hb) hN hj q, q⟩
theorem own_sub_eq {a b : UInt64} (hb : DFin b) : Jvm.FP.dsub a b = Jvm.FP.dadd a (Jvm.FP.dneg b) := by
  rw [Jvm.FP.dneg_core hb.notNaN]; exact dsub_eq a b
theorem own_sum_val {a b : UInt64} (ha : DFin a) (hb : DFin b) (hz : own_z a + own_z b ≠ 0) :
    val64 (Jvm.FP.dadd a b) = roundRatio b64 (decide (own_z a + own_z b < 0)) (own_z a + own_z b).natAbs 1 (-1074) := by
  have fa := val64_fits a
  have fb := val64_fits b
  have za : own_z a = zval b64 (val64 a) := rfl
  have zb : own_z b = zval b64 (val64 b) := rfl
  obtain ⟨s, c, q, ea⟩ := ha
  obtain ⟨t, d, r, eb⟩ := hb
  rw [show val64 (Jvm.FP.dadd a b) = _ from val64_dadd a b, ea, eb]
  rw [ea] at fa za
  rw [eb] at fb zb
  obtain ⟨sg, n, e, h1, h2, h3⟩ := sum_units fa fb
  rw [← za, ← zb] at h3
  rw [h1]
  show roundRatio b64 sg n 1 e = _
  rw [qmin_b64] at h2
  have hn : inUnits n e b64.qmin = (own_z a + own_z b).natAbs := by rw [← h3, natAbs_signed]
  have hs : sg = decide (own_z a + own_z b < 0) := by
    have hp : 0 < inUnits n e b64.qmin := by omega
    rw [← h3]; exact (signed_lt_zero sg hp).symm
  rw [← hs]
  refine roundRatio_congr (by decide) (by decide) ?_
  rw [← hn]
  unfold inUnits
  rw [qmin_b64, show (-1074 - e).toNat = 0 by omega, Nat.pow_zero, Nat.mul_one, Nat.mul_one, Nat.mul_one]
theorem own_sum_same {a b a' b' : UInt64} (ha : DFin a) (hb : DFin b) (ha' : DFin a') (hb' : DFin b') (h : own_z a + own_z b = own_z a' + own_z b') (hz : own_z a + own_z b ≠ 0) : Jvm.FP.dadd a b = Jvm.FP.dadd a' b' := by
  refine val64_inj (own_add_nn ha hb) ?_
  rw [own_sum_val ha hb hz, own_sum_val ha' hb' (by rw [← h]; exact hz), h]
theorem own_sub_same {a b a' : UInt64} (ha : DFin a) (hb : DFin b) (ha' : DFin a') (h : own_z a = own_z a') (hz : own_z a ≠ own_z b) : Jvm.FP.dsub a b = Jvm.FP.dsub a' b := by
  rw [own_sub_eq hb, own_sub_eq hb]
  exact own_sum_same ha (own_fin_neg hb) ha' (own_fin_neg hb) (by rw [h]) (by rw [own_z_neg]; omega)
-- products
theorem own_mul_nn {a b : UInt64} (ha : DFin a) (hb : DFin b) : val64 (Jvm.FP.dmul a b) ≠ .nan := (notNaN_iff _).mp (dmul_out ha hb)
theorem own_mul {a b : UInt64} (ha : DFin a) (hb : DFin b) {N : Int} {j : Nat} (hN : N.natAbs < 2 ^ 53) (hj : j ≤ 2045)
    (h : own_z a * own_z b = N * ((2 ^ j : Nat) : Int) * ((2 ^ 1074 : Nat) : Int)) : DFin (Jvm.FP.dmul a b) ∧ own_z (Jvm.FP.dmul a b) = N * ((2 ^ j : Nat) : Int) := by
  have q : own_z (Jvm.FP.dmul a b) = N * ((2 ^ j : Nat) : Int) := by
    obtain ⟨V, f1, f2, -, f4⟩ := own_rep hN hj
    have fa := val64_fits a
    have fb := val64_fits b
    obtain ⟨s, c, q, ea⟩ := ha
    obtain ⟨t, d, r, eb⟩ := hb
    unfold own_z at h ⊢
    rw [ea] at fa
    rw [eb] at fb
    rw [val64_dmul, ea, eb]
    rw [ea, eb] at h
    obtain ⟨u1, u2, u3⟩ := product_units fa fb
    rw [u1]
    have e : signed (s != t) (inUnits (c * d) (q + r) (2 * b64.qmin)) = zval b64 (.fin s c q) * zval b64 (.fin t d r) := by
      rw [u3]; exact signed_xor s t _ _
    have k : (b64.qmin - 2 * b64.qmin).toNat = 1074 := by rw [qmin_b64]; decide
    have w1 := zval_round_le good_b64 f1 f2 (e0 := 2 * b64.qmin) (by rw [qmin_b64]; decide) u2 (by rw [e, h, f4, k]; exact Int.le_refl _)
    have w2 := zval_round_ge good_b64 f1 f2 (e0 := 2 * b64.qmin) (by rw [qmin_b64]; decide) u2 (by rw [e, h, f4, k]; exact Int.le_refl _)
    rw [f4] at w1 w2
    exact Int.le_antisymm w1 w2
  exact ⟨own_fin_abs (own_mul_nn ha hb) hN hj q, q⟩
-- quotients by a positive number
theorem own_div_val {a b : UInt64} (ha : DFin a) (hb : DFin b) (hz : own_z b ≠ 0) :
    val64 (Jvm.FP.ddiv a b) = roundRatio b64 (sgn (val64 a) != sgn (val64 b)) (own_z a).natAbs (own_z b).natAbs 0 := by
  have fa := val64_fits a
  have fb := val64_fits b
  have ea' : (own_z a).natAbs = zmag b64 (val64 a) := own_zabs _
  have eb' : (own_z b).natAbs = zmag b64 (val64 b) := own_zabs _
  have hz' : zmag b64 (val64 b) ≠ 0 := by omega
  rw [ea', eb', show val64 (Jvm.FP.ddiv a b) = _ from val64_ddiv a b]
  obtain ⟨s, c, q, ea⟩ := ha
  obtain ⟨t, d, r, eb⟩ := hb
  rw [ea] at fa ⊢
  rw [eb] at fb hz' ⊢
  have q1 := fa.2.1
  have r1 := fb.2.1
  have hz2 : inUnits d r b64.qmin ≠ 0 := hz'
  unfold inUnits at hz2
  have hd : d ≠ 0 := fun z => hz2 (by rw [z, Nat.zero_mul])
  show (if d = 0 then _ else roundRatio b64 (s != t) c d (q - r)) = roundRatio b64 (s != t) (inUnits c q b64.qmin) (inUnits d r b64.qmin) 0
  rw [if_neg hd]
  refine roundRatio_congr (Nat.pos_of_ne_zero hd) (Nat.pos_of_ne_zero hz') ?_
  unfold inUnits
  rw [qmin_b64] at *
  have e1 : (q - r - 0).toNat + (r - -1074).toNat = (q - -1074).toNat + (0 - (q - r)).toNat := by omega
  calc c * (d * 2 ^ (r - -1074).toNat) * 2 ^ (q - r - 0).toNat = c * d * 2 ^ ((q - r - 0).toNat + (r - -1074).toNat) := by rw [Nat.pow_add]; ac_rfl
    _ = c * d * 2 ^ ((q - -1074).toNat + (0 - (q - r)).toNat) := by rw [e1]
    _ = c * 2 ^ (q - -1074).toNat * d * 2 ^ (0 - (q - r)).toNat := by rw [Nat.pow_add]; ac_rfl
theorem own_sgn_pos {a : UInt64} (h : 0 < own_z a) : sgn (val64 a) = false := by
  cases e : sgn (val64 a) with
  | false => rfl
  | true =>
    have : own_z a = -((zmag b64 (val64 a) : Nat) : Int) := by unfold own_z zval; rw [e]; rfl
    omega
theorem own_sgn_neg {a : UInt64} (h : own_z a < 0) : sgn (val64 a) = true := by
  cases e : sgn (val64 a) with
  | true => rfl
  | false =>
    have : own_z a = ((zmag b64 (val64 a) : Nat) : Int) := by unfold own_z zval; rw [e]; rfl
    omega
theorem own_div_z {a b : UInt64} (ha : DFin a) (hb : DFin b) (hz : 0 < own_z b) :
    own_z (Jvm.FP.ddiv a b) = signed (sgn (val64 a)) (zmag b64 (roundRatio b64 (sgn (val64 a)) (own_z a).natAbs (own_z b).natAbs 0)) := by
  unfold own_z zval
  have q := own_div_val ha hb (by omega)
  rw [own_sgn_pos hz, Bool.bne_false] at q
  unfold own_z at q
  rw [q, sgn_roundRatio]
  rfl
theorem own_div_nn {a b : UInt64} (ha : DFin a) (hb : DFin b) (hz : own_z b ≠ 0) : val64 (Jvm.FP.ddiv a b) ≠ .nan := by
  rw [own_div_val ha hb hz]; exact roundRatio_ne_nan _ _ _ _ _
theorem own_rr_le {s : Bool} {A B : Nat} (hB : 0 < B) {N : Int} {j : Nat} (hN : N.natAbs < 2 ^ 53) (hj : j ≤ 2045) (h : A * 2 ^ 1074 ≤ N.natAbs * 2 ^ j * B) :
    zmag b64 (roundRatio b64 s A B 0) ≤ N.natAbs * 2 ^ j := by
  obtain ⟨V, f1, f2, -, f4⟩ := own_rep hN hj
  have e : zmag b64 V = N.natAbs * 2 ^ j := by rw [← own_zabs, f4, Int.natAbs_mul, Int.natAbs_natCast]
  have q := zmag_roundRatio_le good_b64 (s := s) (A := A) (B := B) (e := 0) (e0 := b64.qmin) hB f1 f2 (Int.le_refl _) (by rw [qmin_b64]; decide)
    (by unfold inUnits; rw [e, Int.sub_self, qmin_b64, show ((0 : Int) - -1074).toNat = 1074 from rfl, show (0 : Int).toNat = 0 from rfl, Nat.pow_zero, Nat.mul_one]; exact h)
  rw [e] at q; exact q
theorem own_rr_ge {s : Bool} {A B : Nat} (hB : 0 < B) {N : Int} {j : Nat} (hN : N.natAbs < 2 ^ 53) (hj : j ≤ 2045) (h : N.natAbs * 2 ^ j * B ≤ A * 2 ^ 1074) :
    N.natAbs * 2 ^ j ≤ zmag b64 (roundRatio b64 s A B 0) := by
  obtain ⟨V, f1, f2, -, f4⟩ := own_rep hN hj
  have e : zmag b64 V = N.natAbs * 2 ^ j := by rw [← own_zabs, f4, Int.natAbs_mul, Int.natAbs_natCast]
  have q := zmag_roundRatio_ge good_b64 (s := s) (A := A) (B := B) (e := 0) (e0 := b64.qmin) hB f1 (Int.le_refl _) (by rw [qmin_b64]; decide)
    (by unfold inUnits; rw [e, Int.sub_self, qmin_b64, show ((0 : Int) - -1074).toNat = 1074 from rfl, show (0 : Int).toNat = 0 from rfl, Nat.pow_zero, Nat.mul_one]; exact h)
  rw [e] at q; exact q
theorem own_cast_le {A B N : Nat} {j k : Nat} (h : (A : Int) * ((2 ^ k : Nat) : Int) ≤ (N : Int) * ((2 ^ j : Nat) : Int) * (B : Int)) : A * 2 ^ k ≤ N * 2 ^ j * B := by
  rw [← Int.natCast_mul, ← Int.natCast_mul, ← Int.natCast_mul] at h
  exact Int.ofNat_le.mp h
theorem own_cast_ge {A B N : Nat} {j k : Nat} (h : (N : Int) * ((2 ^ j : Nat) : Int) * (B : Int) ≤ (A : Int) * ((2 ^ k : Nat) : Int)) : N * 2 ^ j * B ≤ A * 2 ^ k := by
  rw [← Int.natCast_mul, ← Int.natCast_mul, ← Int.natCast_mul] at h
  exact Int.ofNat_le.mp h
theorem own_div_le {a b : UInt64} (ha : DFin a) (hb : DFin b) (hz : 0 < own_z b) {N : Int} {j : Nat} (hN : N.natAbs < 2 ^ 53) (hj : j ≤ 2045)
    (h : own_z a * ((2 ^ 1074 : Nat) : Int) ≤ N * ((2 ^ j : Nat) : Int) * own_z b) : own_z (Jvm.FP.ddiv a b) ≤ N * ((2 ^ j : Nat) : Int) := by
  rw [own_div_z ha hb hz]
  have p : (0 : Int) < ((2 ^ j : Nat) : Int) := by exact_mod_cast Nat.two_pow_pos j
  have p2 : (0 : Int) < ((2 ^ 1074 : Nat) : Int) := by exact_mod_cast Nat.two_pow_pos 1074
  have hB : 0 < (own_z b).natAbs := by omega
  have eb : ((own_z b).natAbs : Int) = own_z b := by omega
  by_cases s : 0 ≤ N
  · have q := Int.mul_nonneg s (Int.le_of_lt p)
    have eN : (N.natAbs : Int) = N := by omega
    cases e : sgn (val64 a) with
    | true =>
      show -((_ : Nat) : Int) ≤ _
      omega
    | false =>
      have ez : own_z a = ((own_z a).natAbs : Int) := by
        have : own_z a = ((zmag b64 (val64 a) : Nat) : Int) := by unfold own_z zval; rw [e]; rfl
        omega
      have r := own_rr_le (s := false) (A := (own_z a).natAbs) hB hN hj (own_cast_le (by rw [eb, eN, ← ez]; exact h))
      show ((_ : Nat) : Int) ≤ _
      have r2 := Int.ofNat_le.mpr r
      rw [Int.natCast_mul, eN] at r2
      exact r2
  · have nb : own_z a < 0 := by
      refine Int.lt_of_not_ge fun g => ?_
      have g1 := Int.mul_nonneg g (Int.le_of_lt p2)
      have g2 := Int.mul_pos (Int.mul_pos (show (0 : Int) < -N by omega) p) hz
      rw [Int.neg_mul, Int.neg_mul] at g2
      omega
    rw [own_sgn_neg nb]
    show -((_ : Nat) : Int) ≤ _
    have eN : (N.natAbs : Int) = -N := by omega
    have ez : ((own_z a).natAbs : Int) = -own_z a := by omega
    have r := own_rr_ge (s := true) (A := (own_z a).natAbs) hB hN hj (own_cast_ge (by rw [eb, eN, ez, Int.neg_mul, Int.neg_mul, Int.neg_mul]; omega))
    have r2 := Int.ofNat_le.mpr r
    rw [Int.natCast_mul, eN, Int.neg_mul] at r2
    omega
theorem own_div_ge {a b : UInt64} (ha : DFin a) (hb : DFin b) (hz : 0 < own_z b) {N : Int} {j : Nat} (hN : N.natAbs < 2 ^ 53) (hj : j ≤ 2045)
    (h : N * ((2 ^ j : Nat) : Int) * own_z b ≤ own_z a * ((2 ^ 1074 : Nat) : Int)) : N * ((2 ^ j : Nat) : Int) ≤ own_z (Jvm.FP.ddiv a b) := by
  have q := own_div_le (own_fin_neg ha) hb hz (N := -N) (j := j) (by omega) hj (by rw [own_z_neg, Int.neg_mul, Int.neg_mul, Int.neg_mul]; omega)
  have e : own_z (Jvm.FP.ddiv (Jvm.FP.dneg a) b) = -own_z (Jvm.FP.ddiv a b) := by
    unfold own_z
    rw [show val64 (Jvm.FP.ddiv (Jvm.FP.dneg a) b) = _ from val64_ddiv _ b, Jvm.FP.val64_dneg, quotient_negate, zval_negate, show val64 (Jvm.FP.ddiv a b) = _ from val64_ddiv a b]
  rw [e, Int.neg_mul] at q
  omega
theorem own_div {a b : UInt64} (ha : DFin a) (hb : DFin b) (hz : 0 < own_z b) {N : Int} {j : Nat} (hN : N.natAbs < 2 ^ 53) (hj : j ≤ 2045)
    (h : own_z a * ((2 ^ 1074 : Nat) : Int) = N * ((2 ^ j : Nat) : Int) * own_z b) : DFin (Jvm.FP.ddiv a b) ∧ own_z (Jvm.FP.ddiv a b) = N * ((2 ^ j : Nat) : Int) := by
  have q : own_z (Jvm.FP.ddiv a b) = N * ((2 ^ j : Nat) : Int) :=
    Int.le_antisymm (own_div_le ha hb hz hN hj (Int.le_of_eq h)) (own_div_ge ha hb hz hN hj (Int.le_of_eq h.symm))
  exact ⟨own_fin_abs (own_div_nn ha hb (by omega)) hN hj q, q⟩
theorem own_div_same {a b a' b' : UInt64} (ha : DFin a) (hb : DFin b) (ha' : DFin a') (hb' : DFin b') (pa : 0 < own_z a) (pb : 0 < own_z b) (pa' : 0 < own_z a') (pb' : 0 < own_z b')
    (h : own_z a * own_z b' = own_z a' * own_z b) : Jvm.FP.ddiv a b = Jvm.FP.ddiv a' b' := by
  refine val64_inj (own_div_nn ha hb (by omega)) ?_
  rw [own_div_val ha hb (by omega), own_div_val ha' hb' (by omega), own_sgn_pos pa, own_sgn_pos pb, own_sgn_pos pa', own_sgn_pos pb']
  refine roundRatio_congr (by omega) (by omega) ?_
  rw [show ((0 : Int) - 0).toNat = 0 from rfl, Nat.pow_zero, Nat.mul_one, Nat.mul_one, ← Int.natAbs_mul, ← Int.natAbs_mul, h]
-- comparison
theorem own_cmp {a b : UInt64} (ha : val64 a ≠ .nan) (hb : val64 b ≠ .nan) : Jvm.FP.dcmp a b = some (compare (own_z a) (own_z b)) := dcmp_zval ha hb
theorem own_cmp_int {a b : UInt64} (ha : val64 a ≠ .nan) (hb : val64 b ≠ .nan) (o : Jvm.ClassFile.CmpOp) :
    Jvm.Op.cmpValue (Jvm.FP.dcmp a b) o = if own_z a < own_z b then -1 else if own_z a = own_z b then 0 else 1 := by
  rw [own_cmp ha hb, compare_ite]
  by_cases h : own_z a < own_z b
  · rw [if_pos h, if_pos h]; cases o <;> rfl
  · rw [if_neg h, if_neg h]
    by_cases h2 : own_z a = own_z b
    · rw [if_pos h2, if_pos h2]; cases o <;> rfl
    · rw [if_neg h2, if_neg h2]; cases o <;> rfl
-- whole numbers
theorem own_z_l2d {i : Int64} (h : i.toInt.natAbs ≤ 2 ^ 53) : own_z (Jvm.FP.l2d i) = i.toInt * ((2 ^ 1074 : Nat) : Int) := DInt_zval (l2d_int h)
theorem own_z_i2d (i : Int32) : own_z (Jvm.FP.i2d i) = i.toInt * ((2 ^ 1074 : Nat) : Int) := DInt_zval (i2d_int i)
theorem own_fin_l2d (i : Int64) : DFin (Jvm.FP.l2d i) := l2d_fin i
theorem own_fin_i2d (i : Int32) : DFin (Jvm.FP.i2d i) := i2d_fin i
-- n / 2^k
def Dy (n : Int) (k : Nat) (a : UInt64) : Prop := DFin a ∧ own_z a = n * ((2 ^ (1074 - k) : Nat) : Int)
theorem Dy.fin {n : Int} {k : Nat} {a : UInt64} (h : Dy n k a) : DFin a := h.1
theorem Dy.nn {n : Int} {k : Nat} {a : UInt64} (h : Dy n k a) : Jvm.Free.Fl.NoNaN64 a := own_nn h.1
theorem Dy.i2d (i : Int32) : Dy i.toInt 0 (Jvm.FP.i2d i) := ⟨own_fin_i2d i, own_z_i2d i⟩
theorem Dy.l2d {i : Int64} (h : i.toInt.natAbs ≤ 2 ^ 53) : Dy i.toInt 0 (Jvm.FP.l2d i) := ⟨own_fin_l2d i, own_z_l2d h⟩
theorem Dy.add {n m : Int} {k : Nat} {a b : UInt64} (ha : Dy n k a) (hb : Dy m k b) (h : (n + m).natAbs < 2 ^ 53) : Dy (n + m) k (Jvm.FP.dadd a b) :=
  own_add ha.1 hb.1 h (by omega) (by rw [ha.2, hb.2, Int.add_mul])
theorem Dy.neg {n : Int} {k : Nat} {a : UInt64} (ha : Dy n k a) : Dy (-n) k (Jvm.FP.dneg a) := ⟨own_fin_neg ha.1, by rw [own_z_neg, ha.2, Int.neg_mul]⟩
theorem Dy.sub {n m : Int} {k : Nat} {a b : UInt64} (ha : Dy n k a) (hb : Dy m k b) (h : (n - m).natAbs < 2 ^ 53) : Dy (n - m) k (Jvm.FP.dsub a b) := by
  rw [own_sub_eq hb.1]; exact Dy.add ha hb.neg (by rw [← Int.sub_eq_add_neg]; exact h)
theorem own_pow {k : Nat} (h : k ≤ 1074) : ((2 ^ (1074 - k) : Nat) : Int) * ((2 ^ k : Nat) : Int) = ((2 ^ 1074 : Nat) : Int) := by
  rw [← Int.natCast_mul, ← Nat.pow_add, Nat.sub_add_cancel h]
theorem own_pow_pos (k : Nat) : (0 : Int) < ((2 ^ k : Nat) : Int) := by exact_mod_cast Nat.two_pow_pos k
theorem Dy.conv {n m : Int} {k l : Nat} {a : UInt64} (ha : Dy n k a) (hk : k ≤ 1074) (hl : l ≤ 1074) (h : n * ((2 ^ l : Nat) : Int) = m * ((2 ^ k : Nat) : Int)) : Dy m l a := by
  refine ⟨ha.1, ?_⟩
  have e1 := own_pow hk
  have e2 := own_pow hl
  have p1 := own_pow_pos k
  have p2 := own_pow_pos l
  rw [ha.2]
  generalize ((2 ^ (1074 - k) : Nat) : Int) = A at *
  generalize ((2 ^ (1074 - l) : Nat) : Int) = B at *
  generalize ((2 ^ k : Nat) : Int) = K at *
  generalize ((2 ^ l : Nat) : Int) = L at *
  refine Int.eq_of_mul_eq_mul_right (Int.ne_of_gt (Int.mul_pos p1 p2)) ?_
  calc n * A * (K * L) = n * L * (A * K) := by ac_rfl
    _ = m * K * (B * L) := by rw [h, e1, e2]
    _ = m * B * (K * L) := by ac_rfl
theorem Dy.mul {n m : Int} {k l : Nat} {a b : UInt64} (ha : Dy n k a) (hb : Dy m l b) (hk : k + l ≤ 1074) (h : (n * m).natAbs < 2 ^ 53) : Dy (n * m) (k + l) (Jvm.FP.dmul a b) := by
  refine own_mul ha.1 hb.1 h (by omega) ?_
  rw [ha.2, hb.2]
  have e1 : ((2 ^ (1074 - k) : Nat) : Int) * ((2 ^ (1074 - l) : Nat) : Int) = ((2 ^ (1074 - (k + l)) : Nat) : Int) * ((2 ^ 1074 : Nat) : Int) := by
    rw [← Int.natCast_mul, ← Int.natCast_mul, ← Nat.pow_add, ← Nat.pow_add]
    congr 2; omega
  generalize ((2 ^ (1074 - k) : Nat) : Int) = A at *
  generalize ((2 ^ (1074 - l) : Nat) : Int) = B at *
  generalize ((2 ^ (1074 - (k + l)) : Nat) : Int) = C at *
  generalize ((2 ^ 1074 : Nat) : Int) = O at *
  calc n * A * (m * B) = n * m * (A * B) := by ac_rfl
    _ = n * m * C * O := by rw [e1]; ac_rfl
theorem Dy.mulx {n m N : Int} {k l r : Nat} {a b : UInt64} (ha : Dy n k a) (hb : Dy m l b) (hk : k ≤ 1074) (hl : l ≤ 1074) (hr : r ≤ 1074)
    (h : n * m * ((2 ^ r : Nat) : Int) = N * ((2 ^ k : Nat) : Int) * ((2 ^ l : Nat) : Int)) (hN : N.natAbs < 2 ^ 53) : Dy N r (Jvm.FP.dmul a b) := by
  refine own_mul ha.1 hb.1 hN (by omega) ?_
  rw [ha.2, hb.2]
  have e1 := own_pow hk
  have e2 := own_pow hl
  have e3 := own_pow hr
  have p1 := own_pow_pos k
  have p2 := own_pow_pos l
  have p3 := own_pow_pos r
  generalize ((2 ^ 1074 : Nat) : Int) = O at *
  generalize ((2 ^ (1074 - k) : Nat) : Int) = A at *
  generalize ((2 ^ (1074 - l) : Nat) : Int) = B at *
  generalize ((2 ^ (1074 - r) : Nat) : Int) = C at *
  generalize ((2 ^ k : Nat) : Int) = K at *
  generalize ((2 ^ l : Nat) : Int) = L at *
  generalize ((2 ^ r : Nat) : Int) = R at *
  refine Int.eq_of_mul_eq_mul_right (Int.ne_of_gt (Int.mul_pos p1 (Int.mul_pos p2 p3))) ?_
  calc n * A * (m * B) * (K * (L * R)) = n * m * R * ((A * K) * (B * L)) := by ac_rfl
    _ = N * K * L * (O * (C * R)) := by rw [h, e1, e2, e3]
    _ = N * C * O * (K * (L * R)) := by ac_rfl
theorem Dy.pos {n : Int} {k : Nat} {a : UInt64} (ha : Dy n k a) (h : 0 < n) : 0 < own_z a := by rw [ha.2]; exact Int.mul_pos h (own_pow_pos _)
theorem Dy.div {n m N : Int} {k l r : Nat} {a b : UInt64} (ha : Dy n k a) (hb : Dy m l b) (hm : 0 < m) (hk : k ≤ 1074) (hl : l ≤ 1074) (hr : r ≤ 1074)
    (h : n * ((2 ^ l : Nat) : Int) * ((2 ^ r : Nat) : Int) = N * m * ((2 ^ k : Nat) : Int)) (hN : N.natAbs < 2 ^ 53) : Dy N r (Jvm.FP.ddiv a b) := by
  refine own_div ha.1 hb.1 (hb.pos hm) hN (by omega) ?_
  rw [ha.2, hb.2]
  have e1 := own_pow hk
  have e2 := own_pow hl
  have e3 := own_pow hr
  have p1 := own_pow_pos k
  have p2 := own_pow_pos l
  have p3 := own_pow_pos r
  generalize ((2 ^ 1074 : Nat) : Int) = O at *
  generalize ((2 ^ (1074 - k) : Nat) : Int) = A at *
  generalize ((2 ^ (1074 - l) : Nat) : Int) = B at *
  generalize ((2 ^ (1074 - r) : Nat) : Int) = C at *
  generalize ((2 ^ k : Nat) : Int) = K at *
  generalize ((2 ^ l : Nat) : Int) = L at *
  generalize ((2 ^ r : Nat) : Int) = R at *
  refine Int.eq_of_mul_eq_mul_right (Int.ne_of_gt (Int.mul_pos p1 (Int.mul_pos p2 p3))) ?_
  calc n * A * O * (K * (L * R)) = n * L * R * (A * K) * O := by ac_rfl
    _ = N * m * K * (C * R) * (B * L) := by rw [h, e1, e2, e3]
    _ = N * C * (m * B) * (K * (L * R)) := by ac_rfl
theorem Dy.same {n m n' m' : Int} {k l k' l' : Nat} {a b a' b' : UInt64} (ha : Dy n k a) (hb : Dy m l b) (ha' : Dy n' k' a') (hb' : Dy m' l' b') (pn : 0 < n) (pm : 0 < m) (pn' : 0 < n') (pm' : 0 < m')
    (hk : k ≤ 1074) (hl : l ≤ 1074) (hk' : k' ≤ 1074) (hl' : l' ≤ 1074)
    (h : n * m' * ((2 ^ l : Nat) : Int) * ((2 ^ k' : Nat) : Int) = n' * m * ((2 ^ l' : Nat) : Int) * ((2 ^ k : Nat) : Int)) : Jvm.FP.ddiv a b = Jvm.FP.ddiv a' b' := by
  refine own_div_same ha.1 hb.1 ha'.1 hb'.1 (ha.pos pn) (hb.pos pm) (ha'.pos pn') (hb'.pos pm') ?_
  rw [ha.2, hb.2, ha'.2, hb'.2]
  have e1 := own_pow hk
  have e2 := own_pow hl
  have e3 := own_pow hk'
  have e4 := own_pow hl'
  have p1 := own_pow_pos k
  have p2 := own_pow_pos l
  have p3 := own_pow_pos k'
  have p4 := own_pow_pos l'
  generalize ((2 ^ 1074 : Nat) : Int) = O at *
  generalize ((2 ^ (1074 - k) : Nat) : Int) = A at *
  generalize ((2 ^ (1074 - l) : Nat) : Int) = B at *
  generalize ((2 ^ (1074 - k') : Nat) : Int) = A' at *
  generalize ((2 ^ (1074 - l') : Nat) : Int) = B' at *
  generalize ((2 ^ k : Nat) : Int) = K at *
  generalize ((2 ^ l : Nat) : Int) = L at *
  generalize ((2 ^ k' : Nat) : Int) = K' at *
  generalize ((2 ^ l' : Nat) : Int) = L' at *
  refine Int.eq_of_mul_eq_mul_right (Int.ne_of_gt (Int.mul_pos (Int.mul_pos p1 p2) (Int.mul_pos p3 p4))) ?_
  calc n * A * (m' * B') * (K * L * (K' * L')) = n * m' * L * K' * ((A * K) * (B' * L')) := by ac_rfl
    _ = n' * m * L' * K * ((A' * K') * (B * L)) := by rw [h, e1, e2, e3, e4]
    _ = n' * A' * (m * B) * (K * L * (K' * L')) := by ac_rfl
theorem Dy.cmp {n m : Int} {k : Nat} {a b : UInt64} (ha : Dy n k a) (hb : Dy m k b) (o : Jvm.ClassFile.CmpOp) :
    Jvm.Op.cmpValue (Jvm.FP.dcmp a b) o = if n < m then -1 else if n = m then 0 else 1 := by
  rw [own_cmp_int ha.1.ne_nan hb.1.ne_nan, ha.2, hb.2]
  have p := own_pow_pos (1074 - k)
  generalize ((2 ^ (1074 - k) : Nat) : Int) = A at *
  have e1 : (n * A < m * A) ↔ n < m := ⟨fun q => Int.lt_of_mul_lt_mul_right q (Int.le_of_lt p), fun q => Int.mul_lt_mul_of_pos_right q p⟩
  have e2 : (n * A = m * A) ↔ n = m := ⟨fun q => Int.eq_of_mul_eq_mul_right (Int.ne_of_gt p) q, fun q => by rw [q]⟩
  simp only [e1, e2]
theorem Dy.div_le {n m N : Int} {k r : Nat} {a b : UInt64} (ha : Dy n k a) (hb : Dy m k b) (hm : 0 < m) (hr : r ≤ 1074) (hN : N.natAbs < 2 ^ 53)
    (h : n * ((2 ^ r : Nat) : Int) ≤ N * m) : own_z (Jvm.FP.ddiv a b) ≤ N * ((2 ^ (1074 - r) : Nat) : Int) := by
  refine own_div_le ha.1 hb.1 (hb.pos hm) hN (by omega) ?_
  rw [ha.2, hb.2, ← own_pow hr]
  have p1 := own_pow_pos (1074 - k)
  have p2 := own_pow_pos (1074 - r)
  generalize ((2 ^ (1074 - k) : Nat) : Int) = A at *
  generalize ((2 ^ (1074 - r) : Nat) : Int) = C at *
  generalize ((2 ^ r : Nat) : Int) = R at *
  have q := Int.mul_le_mul_of_nonneg_right h (Int.le_of_lt (Int.mul_pos p1 p2))
  calc n * A * (C * R) = n * R * (A * C) := by ac_rfl
    _ ≤ N * m * (A * C) := q
    _ = N * C * (m * A) := by ac_rfl
theorem Dy.div_ge {n m N : Int} {k r : Nat} {a b : UInt64} (ha : Dy n k a) (hb : Dy m k b) (hm : 0 < m) (hr : r ≤ 1074) (hN : N.natAbs < 2 ^ 53)
    (h : N * m ≤ n * ((2 ^ r : Nat) : Int)) : N * ((2 ^ (1074 - r) : Nat) : Int) ≤ own_z (Jvm.FP.ddiv a b) := by
  refine own_div_ge ha.1 hb.1 (hb.pos hm) hN (by omega) ?_
  rw [ha.2, hb.2, ← own_pow hr]
  have p1 := own_pow_pos (1074 - k)
  have p2 := own_pow_pos (1074 - r)
  generalize ((2 ^ (1074 - k) : Nat) : Int) = A at *
  generalize ((2 ^ (1074 - r) : Nat) : Int) = C at *
  generalize ((2 ^ r : Nat) : Int) = R at *
  have q := Int.mul_le_mul_of_nonneg_right h (Int.le_of_lt (Int.mul_pos p1 p2))
  calc N * C * (m * A) = N * m * (A * C) := by ac_rfl
    _ ≤ n * R * (A * C) := q
    _ = n * A * (C * R) := by ac_rfl
theorem Dy.div_nn {n m : Int} {k l : Nat} {a b : UInt64} (ha : Dy n k a) (hb : Dy m l b) (hm : 0 < m) : val64 (Jvm.FP.ddiv a b) ≠ .nan :=
  own_div_nn ha.1 hb.1 (Int.ne_of_gt (hb.pos hm))
theorem own_fin64 {a : UInt64} (h : DFin a) : Jvm.Free.Fl.Fin64 a := Jvm.Free.Fl.fin64_core.mpr h
theorem own_nz64 {a : UInt64} (h : DFin a) (hz : own_z a ≠ 0) : Jvm.Free.Fl.Nz64 a := Jvm.Free.Fl.nz64_core.mpr (dnot_zero h.ne_nan hz)
theorem own_nn' {a : UInt64} (h : val64 a ≠ .nan) : Jvm.Free.Fl.NoNaN64 a := Jvm.Free.Fl.noNaN64_no.mpr ((notNaN_iff a).mpr h)
theorem own_c_lt (P Q : Prop) [Decidable P] [Decidable Q] : (if P then (-1 : Int32) else if Q then 0 else 1) < (0 : Int32) ↔ P := by
  by_cases h : P
  · rw [if_pos h]; exact ⟨fun _ => h, fun _ => by decide⟩
  · rw [if_neg h]
    by_cases h2 : Q
    · rw [if_pos h2]; exact ⟨fun q => absurd q (by decide), fun q => absurd q h⟩
    · rw [if_neg h2]; exact ⟨fun q => absurd q (by decide), fun q => absurd q h⟩
theorem own_c_gt (P Q : Prop) [Decidable P] [Decidable Q] : (0 : Int32) < (if P then (-1 : Int32) else if Q then 0 else 1) ↔ ¬ P ∧ ¬ Q := by
  by_cases h : P
  · rw [if_pos h]; exact ⟨fun q => absurd q (by decide), fun q => absurd h q.1⟩
  · rw [if_neg h]
    by_cases h2 : Q
    · rw [if_pos h2]; exact ⟨fun q => absurd q (by decide), fun q => absurd h2 q.2⟩
    · rw [if_neg h2]; exact ⟨fun _ => ⟨h, h2⟩, fun _ => by decide⟩
theorem own_c_eq (P Q : Prop) [Decidable P] [Decidable Q] : (if P then (-1 : Int32) else if Q then 0 else 1) = (0 : Int32) ↔ ¬ P ∧ Q := by
  by_cases h : P
  · rw [if_pos h]; exact ⟨fun q => absurd q (by decide), fun q => absurd h q.1⟩
  · rw [if_neg h]
    by_cases h2 : Q
    · rw [if_pos h2]; exact ⟨fun _ => ⟨h, h2⟩, fun _ => rfl⟩
    · rw [if_neg h2]; exact ⟨fun q => absurd q (by decide), fun q => absurd q.2 h2⟩
theorem own_lt0 {a b : UInt64} (ha : val64 a ≠ .nan) (hb : val64 b ≠ .nan) (o : Jvm.ClassFile.CmpOp) : Jvm.Op.cmpValue (Jvm.FP.dcmp a b) o < (0 : Int32) ↔ own_z a < own_z b := by
  rw [own_cmp_int ha hb]; exact own_c_lt _ _
theorem own_gt0 {a b : UInt64} (ha : val64 a ≠ .nan) (hb : val64 b ≠ .nan) (o : Jvm.ClassFile.CmpOp) : (0 : Int32) < Jvm.Op.cmpValue (Jvm.FP.dcmp a b) o ↔ own_z b < own_z a := by
  rw [own_cmp_int ha hb, own_c_gt]; omega
theorem own_eq0 {a b : UInt64} (ha : val64 a ≠ .nan) (hb : val64 b ≠ .nan) (o : Jvm.ClassFile.CmpOp) : Jvm.Op.cmpValue (Jvm.FP.dcmp a b) o = (0 : Int32) ↔ own_z a = own_z b := by
  rw [own_cmp_int ha hb, own_c_eq]; omega
theorem Dy.lt0 {n m : Int} {k : Nat} {a b : UInt64} (ha : Dy n k a) (hb : Dy m k b) (o : Jvm.ClassFile.CmpOp) : Jvm.Op.cmpValue (Jvm.FP.dcmp a b) o < (0 : Int32) ↔ n < m := by
  rw [ha.cmp hb]; exact own_c_lt _ _
theorem Dy.gt0 {n m : Int} {k : Nat} {a b : UInt64} (ha : Dy n k a) (hb : Dy m k b) (o : Jvm.ClassFile.CmpOp) : (0 : Int32) < Jvm.Op.cmpValue (Jvm.FP.dcmp a b) o ↔ m < n := by
  rw [ha.cmp hb, own_c_gt]; omega
theorem Dy.eq0 {n m : Int} {k : Nat} {a b : UInt64} (ha : Dy n k a) (hb : Dy m k b) (o : Jvm.ClassFile.CmpOp) : Jvm.Op.cmpValue (Jvm.FP.dcmp a b) o = (0 : Int32) ↔ n = m := by
  rw [ha.cmp hb, own_c_eq]; omega
theorem Dy.zero (k : Nat) : Dy 0 k Jvm.FP.dconst0 := ⟨⟨false, 0, b64.qmin, val64_dconst0⟩, by rw [Int.zero_mul]; exact zval64_zero⟩
theorem Dy.one : Dy 1 0 Jvm.FP.dconst1 := ⟨⟨false, 2 ^ 52, -52, val64_dconst1⟩, by rw [Int.one_mul]; exact (DInt_zval dint_one).trans (Int.one_mul _)⟩
theorem Dy.d2l {n : Int} {a : UInt64} (ha : Dy n 0 a) (h0 : 0 ≤ n) (h1 : n < 2 ^ 63) : (Jvm.FP.d2l a).toInt = n := by
  rw [show (Jvm.FP.d2l a).toInt = _ from d2l_val ha.1.ne_nan]
  have e : (own_z a).natAbs = zmag b64 (val64 a) := own_zabs _
  have e2 : own_z a = n * ((2 ^ 1074 : Nat) : Int) := ha.2
  have e3 : zmag b64 (val64 a) = n.natAbs * one64 := by rw [← e, e2, Int.natAbs_mul, Int.natAbs_natCast]; rfl
  rw [e3, Nat.mul_div_cancel _ one64_pos]
  by_cases hz : n = 0
  · subst hz
    rw [show (0 : Int).natAbs = 0 from rfl, signed_zero]; decide
  · rw [own_sgn_pos (ha.pos (by omega)), show signed false n.natAbs = (n.natAbs : Int) from rfl]
    omega
theorem Dy.up {n m : Int} {k l : Nat} {a : UInt64} (ha : Dy n k a) (j : Nat) (hl : l = k + j) (h : l ≤ 1074) (hm : m = n * ((2 ^ j : Nat) : Int)) : Dy m l a := by
  refine ha.conv (by omega) h ?_
  subst hl hm
  rw [Nat.pow_add, Int.natCast_mul]
  ac_rfl
end OwnFl
open Jvm Jvm.ClassFile Sem Op Lib Jvm.Free Jvm.Stand Jvm.LawKit Jvm.RoadKit Bundle Jvm.Pilot.@@N@@.Jvm.D
def QP (rv : Option Value) (h0 : Heap) (n0 : Nat) (v : Option Value) (h : Heap) (L : List Loc) : Prop := v = rv ∧ Fr n0 L ∧ h = h0
def QL (n0 : Nat) (v : Option Value) (h : Heap) (L : List Loc) : Prop := v = some (.int (1 : Int32)) ∧ Fr n0 L
def F1 (p : Int32) : UInt64 := if p = (1 : Int32) then (4427038433705197568 : UInt64) else if p = (2 : Int32) then (4431542033332568064 : UInt64) else if p = (3 : Int32) then (13650410470559973376 : UInt64) else if p = (4 : Int32) then (13654914070187343872 : UInt64) else FP.dconst0
def F2 (u1 u2 : UInt64) : Int32 := if (0 : Int32) < cmpValue (FP.dcmp u1 (FP.dadd u2 (4427486594234968593 : UInt64))) .l then 1 else 0
theorem d1_0 : decode method_2_code 0 = .ok (.iload_n 0, 1) := by decide +kernel
theorem d1_1 : decode method_2_code 1 = .ok (.iconst 1, 1) := by decide +kernel
theorem d1_2 : decode method_2_code 2 = .ok (.if_icmp .ne 7, 3) := by decide +kernel
theorem d1_5 : decode method_2_code 5 = .ok (.ldc2_w 7, 3) := by decide +kernel
theorem d1_8 : decode method_2_code 8 = .ok (.dreturn, 1) := by decide +kernel
theorem pn_1 : plainName "com/example/loomwork/loomwork/select/UtilityBetterPinLaw" = true := by first | (simp [plainName, overriddenIn]; done) | decide +kernel
theorem ef_1 (m : MethodId) (x0 : Int32) : entryFrame m #[(.int x0)] 1 = mkF m 0 #[.val (.int x0)] [] := by first | (simp [entryFrame, mkF, argsToLocals, Value.category]; done) | rfl
set_option maxRecDepth 65536 in
set_option maxHeartbeats 40000000 in
theorem rm1_f (l : Launch) (Z : State) (a0 : Array Value) (hw : ∀ d ∈ tables_1, d.before a0 Z = true) (ws : List Jvm.Cond) (p1 : Int32) (h0 : Heap) (n0 : Nat) (Z0 : n0 ≤ h0.size) (hc2 : p1 = (1 : Int32)) :
    MetFree l (⟨"com/example/loomwork/loomwork/select/UtilityBetterPinLaw", "offset", "(I)D"⟩ : MethodName) (head1 (Jvm.Cond.code (⟨"com/example/loomwork/loomwork/select/UtilityBetterPinLaw", "offset", "(I)D"⟩ : MethodName) method_2_code 1 (some .double) :: ws) ({ frames := 0, cells := 0, slots := 0, locals := 0 } : Room)) (fun a U => a = #[(.int p1)] ∧ Z.Warmed39 U.vm ∧ U.heap = h0) (fun _ _ _ _ _ => True) (fun _ U o U' => ∃ v L, o = .returned v ∧ QP (some (.double (4427038433705197568 : UInt64))) h0 n0 v U'.heap L ∧ FrameEnd U o U' L ({ frames := 0, cells := 0, slots := 0, locals := 0 } : Room).cells ({ frames := 0, cells := 0, slots := 0, locals := 0 } : Room).slots) := by
  refine MetFree.of_bodySF (plainFor_of_name pn_1) hisR ?_
  intro p e s m args below meth c s₁ Bd hml0 hP hK
  obtain ⟨rfl, hZ, hh⟩ := hP
  have hx := Bd.exec
  have hby := Bd.bytes
  have hml : c.maxLocals = 1 := hml0
  have hown : s.vm.findClass "com/example/loomwork/loomwork/select/UtilityBetterPinLaw" = some m.cls := findClass_of_methodNamed Bd.named
  have hnm := (name_of_methodNamed Bd.named Bd.method).1
  have X0 : Stand p l e ({ frames := 0, cells := 0, slots := 0, locals := 0 } : Room) s m #[(.int p1)] below meth c s₁ [] 0 0 := Stand.of_body Bd
  have e0 : s₁.heap = h0 := by rw [← hh, Bd.state]; rfl
  have N0 := Fr.nil n0
  have pre0 : ∀ t, Steps p.tables e below (s₁.setTop (mkF m 0 #[.val (.int p1)] [])) t → Steps p.tables e below (s₁.setTop (entryFrame m #[(.int p1)] 1)) t := fun t k => castTop (ef_1 m p1) k

  obtain ⟨fs, hr, hrun, hended, hW, hsame⟩ := X0.leave (v := some (.double (4427038433705197568 : UInt64))) (fun h => by rw [Bd.returns] at h; cases h)
  refine ⟨_, _, pre0 _ ?_, hrun, hended, _, _, rfl, ?_, ⟨_, rfl⟩, hW, hsame.mono (by decide) (by decide)⟩
  · show Steps p.tables e below (s₁.setTop (mkF m 0 #[.val (.int p1)] [])) _
    refine XS.iloadN X0.here hx rfl (hb hby d1_0) rfl ?_
    show Steps p.tables e below (s₁.setTop (mkF m 1 #[.val (.int p1)] [(.int p1)])) _
    refine XS.iconst X0.here hx rfl (hb hby d1_1) ?_
    show Steps p.tables e below (s₁.setTop (mkF m 2 #[.val (.int p1)] [(.int (1 : Int32)), (.int p1)])) _
    refine XS.icmpNo X0.here hx rfl (hb hby d1_2) rfl (teq hc2).2 ?_
    show Steps p.tables e below (s₁.setTop (mkF m 5 #[.val (.int p1)] [])) _
    refine X0.ldc2DoubleC hx hown (mvT hZ (hw _ (List.mem_of_getElem? (i := 14) rfl))) (g := (mkF m 5 #[.val (.int p1)] [])) rfl (hb hby d1_5) _ ?_
    show Steps p.tables e below (s₁.setTop (mkF m 8 #[.val (.int p1)] [(.double (4427038433705197568 : UInt64))])) _
    jvm_step X0.here [X0.here.top, hx, (hb hby d1_8), X0.method', Bd.returns, narrow]
    first | (intro acts; rw [hr _ acts rfl rfl rfl]) | rw [hr _ _ rfl rfl rfl]
    exact Steps.refl _
  · show QP (some (.double (4427038433705197568 : UInt64))) h0 n0 _ s₁.heap _
    rw [e0]
    exact ⟨rfl, N0, rfl⟩
theorem d1_9 : decode method_2_code 9 = .ok (.iload_n 0, 1) := by decide +kernel
theorem d1_10 : decode method_2_code 10 = .ok (.iconst 2, 1) := by decide +kernel
theorem d1_11 : decode method_2_code 11 = .ok (.if_icmp .ne 7, 3) := by decide +kernel
theorem d1_14 : decode method_2_code 14 = .ok (.ldc2_w 9, 3) := by decide +kernel
theorem d1_17 : decode method_2_code 17 = .ok (.dreturn, 1) := by decide +kernel
set_option maxRecDepth 65536 in
set_option maxHeartbeats 40000000 in
theorem rm1_tf (l : Launch) (Z : State) (a0 : Array Value) (hw : ∀ d ∈ tables_1, d.before a0 Z = true) (ws : List Jvm.Cond) (p1 : Int32) (h0 : Heap) (n0 : Nat) (Z0 : n0 ≤ h0.size) (hc2 : ¬ (p1 = (1 : Int32))) (hc11 : p1 = (2 : Int32)) :
    MetFree l (⟨"com/example/loomwork/loomwork/select/UtilityBetterPinLaw", "offset", "(I)D"⟩ : MethodName) (head1 (Jvm.Cond.code (⟨"com/example/loomwork/loomwork/select/UtilityBetterPinLaw", "offset", "(I)D"⟩ : MethodName) method_2_code 1 (some .double) :: ws) ({ frames := 0, cells := 0, slots := 0, locals := 0 } : Room)) (fun a U => a = #[(.int p1)] ∧ Z.Warmed39 U.vm ∧ U.heap = h0) (fun _ _ _ _ _ => True) (fun _ U o U' => ∃ v L, o = .returned v ∧ QP (some (.double (4431542033332568064 : UInt64))) h0 n0 v U'.heap L ∧ FrameEnd U o U' L ({ frames := 0, cells := 0, slots := 0, locals := 0 } : Room).cells ({ frames := 0, cells := 0, slots := 0, locals := 0 } : Room).slots) := by
  refine MetFree.of_bodySF (plainFor_of_name pn_1) hisR ?_
  intro p e s m args below meth c s₁ Bd hml0 hP hK
  obtain ⟨rfl, hZ, hh⟩ := hP
  have hx := Bd.exec
  have hby := Bd.bytes
  have hml : c.maxLocals = 1 := hml0
  have hown : s.vm.findClass "com/example/loomwork/loomwork/select/UtilityBetterPinLaw" = some m.cls := findClass_of_methodNamed Bd.named
  have hnm := (name_of_methodNamed Bd.named Bd.method).1
  have X0 : Stand p l e ({ frames := 0, cells := 0, slots := 0, locals := 0 } : Room) s m #[(.int p1)] below meth c s₁ [] 0 0 := Stand.of_body Bd
  have e0 : s₁.heap = h0 := by rw [← hh, Bd.state]; rfl
  have N0 := Fr.nil n0
  have pre0 : ∀ t, Steps p.tables e below (s₁.setTop (mkF m 0 #[.val (.int p1)] [])) t → Steps p.tables e below (s₁.setTop (entryFrame m #[(.int p1)] 1)) t := fun t k => castTop (ef_1 m p1) k

  obtain ⟨fs, hr, hrun, hended, hW, hsame⟩ := X0.leave (v := some (.double (4431542033332568064 : UInt64))) (fun h => by rw [Bd.returns] at h; cases h)
  refine ⟨_, _, pre0 _ ?_, hrun, hended, _, _, rfl, ?_, ⟨_, rfl⟩, hW, hsame.mono (by decide) (by decide)⟩
  · show Steps p.tables e below (s₁.setTop (mkF m 0 #[.val (.int p1)] [])) _
    refine XS.iloadN X0.here hx rfl (hb hby d1_0) rfl ?_
    show Steps p.tables e below (s₁.setTop (mkF m 1 #[.val (.int p1)] [(.int p1)])) _
    refine XS.iconst X0.here hx rfl (hb hby d1_1) ?_
    show Steps p.tables e below (s₁.setTop (mkF m 2 #[.val (.int p1)] [(.int (1 : Int32)), (.int p1)])) _
    refine XS.icmpYes X0.here hx rfl (pc0 := 2) (pc' := 9) rfl (hb hby d1_2) rfl (feq hc2).2 (by decide) (by decide) ?_
    show Steps p.tables e below (s₁.setTop (mkF m 9 #[.val (.int p1)] [])) _
    refine XS.iloadN X0.here hx rfl (hb hby d1_9) rfl ?_
    show Steps p.tables e below (s₁.setTop (mkF m 10 #[.val (.int p1)] [(.int p1)])) _
    refine XS.iconst X0.here hx rfl (hb hby d1_10) ?_
    show Steps p.tables e below (s₁.setTop (mkF m 11 #[.val (.int p1)] [(.int (2 : Int32)), (.int p1)])) _
    refine XS.icmpNo X0.here hx rfl (hb hby d1_11) rfl (teq hc11).2 ?_
    show Steps p.tables e below (s₁.setTop (mkF m 14 #[.val (.int p1)] [])) _
    refine X0.ldc2DoubleC hx hown (mvT hZ (hw _ (List.mem_of_getElem? (i := 6) rfl))) (g := (mkF m 14 #[.val (.int p1)] [])) rfl (hb hby d1_14) _ ?_
    show Steps p.tables e below (s₁.setTop (mkF m 17 #[.val (.int p1)] [(.double (4431542033332568064 : UInt64))])) _
    jvm_step X0.here [X0.here.top, hx, (hb hby d1_17), X0.method', Bd.returns, narrow]
    first | (intro acts; rw [hr _ acts rfl rfl rfl]) | rw [hr _ _ rfl rfl rfl]
    exact Steps.refl _
  · show QP (some (.double (4431542033332568064 : UInt64))) h0 n0 _ s₁.heap _
    rw [e0]
    exact ⟨rfl, N0, rfl⟩
theorem d1_18 : decode method_2_code 18 = .ok (.iload_n 0, 1) := by decide +kernel
theorem d1_19 : decode method_2_code 19 = .ok (.iconst 3, 1) := by decide +kernel
theorem d1_20 : decode method_2_code 20 = .ok (.if_icmp .ne 7, 3) := by decide +kernel
theorem d1_23 : decode method_2_code 23 = .ok (.ldc2_w 11, 3) := by decide +kernel
theorem d1_26 : decode method_2_code 26 = .ok (.dreturn, 1) := by decide +kernel
set_option maxRecDepth 65536 in
set_option maxHeartbeats 40000000 in
theorem rm1_ttf (l : Launch) (Z : State) (a0 : Array Value) (hw : ∀ d ∈ tables_1, d.before a0 Z = true) (ws : List Jvm.Cond) (p1 : Int32) (h0 : Heap) (n0 : Nat) (Z0 : n0 ≤ h0.size) (hc2 : ¬ (p1 = (1 : Int32))) (hc11 : ¬ (p1 = (2 : Int32))) (hc20 : p1 = (3 : Int32)) :
    MetFree l (⟨"com/example/loomwork/loomwork/select/UtilityBetterPinLaw", "offset", "(I)D"⟩ : MethodName) (head1 (Jvm.Cond.code (⟨"com/example/loomwork/loomwork/select/UtilityBetterPinLaw", "offset", "(I)D"⟩ : MethodName) method_2_code 1 (some .double) :: ws) ({ frames := 0, cells := 0, slots := 0, locals := 0 } : Room)) (fun a U => a = #[(.int p1)] ∧ Z.Warmed39 U.vm ∧ U.heap = h0) (fun _ _ _ _ _ => True) (fun _ U o U' => ∃ v L, o = .returned v ∧ QP (some (.double (13650410470559973376 : UInt64))) h0 n0 v U'.heap L ∧ FrameEnd U o U' L ({ frames := 0, cells := 0, slots := 0, locals := 0 } : Room).cells ({ frames := 0, cells := 0, slots := 0, locals := 0 } : Room).slots) := by
  refine MetFree.of_bodySF (plainFor_of_name pn_1) hisR ?_
  intro p e s m args below meth c s₁ Bd hml0 hP hK
  obtain ⟨rfl, hZ, hh⟩ := hP
  have hx := Bd.exec
  have hby := Bd.bytes
  have hml : c.maxLocals = 1 := hml0
  have hown : s.vm.findClass "com/example/loomwork/loomwork/select/UtilityBetterPinLaw" = some m.cls := findClass_of_methodNamed Bd.named
  have hnm := (name_of_methodNamed Bd.named Bd.method).1
  have X0 : Stand p l e ({ frames := 0, cells := 0, slots := 0, locals := 0 } : Room) s m #[(.int p1)] below meth c s₁ [] 0 0 := Stand.of_body Bd
  have e0 : s₁.heap = h0 := by rw [← hh, Bd.state]; rfl
  have N0 := Fr.nil n0
  have pre0 : ∀ t, Steps p.tables e below (s₁.setTop (mkF m 0 #[.val (.int p1)] [])) t → Steps p.tables e below (s₁.setTop (entryFrame m #[(.int p1)] 1)) t := fun t k => castTop (ef_1 m p1) k

  obtain ⟨fs, hr, hrun, hended, hW, hsame⟩ := X0.leave (v := some (.double (13650410470559973376 : UInt64))) (fun h => by rw [Bd.returns] at h; cases h)
  refine ⟨_, _, pre0 _ ?_, hrun, hended, _, _, rfl, ?_, ⟨_, rfl⟩, hW, hsame.mono (by decide) (by decide)⟩
  · show Steps p.tables e below (s₁.setTop (mkF m 0 #[.val (.int p1)] [])) _
    refine XS.iloadN X0.here hx rfl (hb hby d1_0) rfl ?_
    show Steps p.tables e below (s₁.setTop (mkF m 1 #[.val (.int p1)] [(.int p1)])) _
    refine XS.iconst X0.here hx rfl (hb hby d1_1) ?_
    show Steps p.tables e below (s₁.setTop (mkF m 2 #[.val (.int p1)] [(.int (1 : Int32)), (.int p1)])) _
    refine XS.icmpYes X0.here hx rfl (pc0 := 2) (pc' := 9) rfl (hb hby d1_2) rfl (feq hc2).2 (by decide) (by decide) ?_
    show Steps p.tables e below (s₁.setTop (mkF m 9 #[.val (.int p1)] [])) _
    refine XS.iloadN X0.here hx rfl (hb hby d1_9) rfl ?_
    show Steps p.tables e below (s₁.setTop (mkF m 10 #[.val (.int p1)] [(.int p1)])) _
    refine XS.iconst X0.here hx rfl (hb hby d1_10) ?_
    show Steps p.tables e below (s₁.setTop (mkF m 11 #[.val (.int p1)] [(.int (2 : Int32)), (.int p1)])) _
    refine XS.icmpYes X0.here hx rfl (pc0 := 11) (pc' := 18) rfl (hb hby d1_11) rfl (feq hc11).2 (by decide) (by decide) ?_
    show Steps p.tables e below (s₁.setTop (mkF m 18 #[.val (.int p1)] [])) _
    refine XS.iloadN X0.here hx rfl (hb hby d1_18) rfl ?_
    show Steps p.tables e below (s₁.setTop (mkF m 19 #[.val (.int p1)] [(.int p1)])) _
    refine XS.iconst X0.here hx rfl (hb hby d1_19) ?_
    show Steps p.tables e below (s₁.setTop (mkF m 20 #[.val (.int p1)] [(.int (3 : Int32)), (.int p1)])) _
    refine XS.icmpNo X0.here hx rfl (hb hby d1_20) rfl (teq hc20).2 ?_
    show Steps p.tables e below (s₁.setTop (mkF m 23 #[.val (.int p1)] [])) _
    refine X0.ldc2DoubleC hx hown (mvT hZ (hw _ (List.mem_of_getElem? (i := 12) rfl))) (g := (mkF m 23 #[.val (.int p1)] [])) rfl (hb hby d1_23) _ ?_
    show Steps p.tables e below (s₁.setTop (mkF m 26 #[.val (.int p1)] [(.double (13650410470559973376 : UInt64))])) _
    jvm_step X0.here [X0.here.top, hx, (hb hby d1_26), X0.method', Bd.returns, narrow]
    first | (intro acts; rw [hr _ acts rfl rfl rfl]) | rw [hr _ _ rfl rfl rfl]
    exact Steps.refl _
  · show QP (some (.double (13650410470559973376 : UInt64))) h0 n0 _ s₁.heap _
    rw [e0]
    exact ⟨rfl, N0, rfl⟩
theorem d1_27 : decode method_2_code 27 = .ok (.iload_n 0, 1) := by decide +kernel
theorem d1_28 : decode method_2_code 28 = .ok (.iconst 4, 1) := by decide +kernel
theorem d1_29 : decode method_2_code 29 = .ok (.if_icmp .ne 7, 3) := by decide +kernel
theorem d1_32 : decode method_2_code 32 = .ok (.ldc2_w 13, 3) := by decide +kernel
theorem d1_35 : decode method_2_code 35 = .ok (.dreturn, 1) := by decide +kernel
set_option maxRecDepth 65536 in
set_option maxHeartbeats 40000000 in
theorem rm1_tttf (l : Launch) (Z : State) (a0 : Array Value) (hw : ∀ d ∈ tables_1, d.before a0 Z = true) (ws : List Jvm.Cond) (p1 : Int32) (h0 : Heap) (n0 : Nat) (Z0 : n0 ≤ h0.size) (hc2 : ¬ (p1 = (1 : Int32))) (hc11 : ¬ (p1 = (2 : Int32))) (hc20 : ¬ (p1 = (3 : Int32))) (hc29 : p1 = (4 : Int32)) :
    MetFree l (⟨"com/example/loomwork/loomwork/select/UtilityBetterPinLaw", "offset", "(I)D"⟩ : MethodName) (head1 (Jvm.Cond.code (⟨"com/example/loomwork/loomwork/select/UtilityBetterPinLaw", "offset", "(I)D"⟩ : MethodName) method_2_code 1 (some .double) :: ws) ({ frames := 0, cells := 0, slots := 0, locals := 0 } : Room)) (fun a U => a = #[(.int p1)] ∧ Z.Warmed39 U.vm ∧ U.heap = h0) (fun _ _ _ _ _ => True) (fun _ U o U' => ∃ v L, o = .returned v ∧ QP (some (.double (13654914070187343872 : UInt64))) h0 n0 v U'.heap L ∧ FrameEnd U o U' L ({ frames := 0, cells := 0, slots := 0, locals := 0 } : Room).cells ({ frames := 0, cells := 0, slots := 0, locals := 0 } : Room).slots) := by
  refine MetFree.of_bodySF (plainFor_of_name pn_1) hisR ?_
  intro p e s m args below meth c s₁ Bd hml0 hP hK
  obtain ⟨rfl, hZ, hh⟩ := hP
  have hx := Bd.exec
  have hby := Bd.bytes
  have hml : c.maxLocals = 1 := hml0
  have hown : s.vm.findClass "com/example/loomwork/loomwork/select/UtilityBetterPinLaw" = some m.cls := findClass_of_methodNamed Bd.named
  have hnm := (name_of_methodNamed Bd.named Bd.method).1
  have X0 : Stand p l e ({ frames := 0, cells := 0, slots := 0, locals := 0 } : Room) s m #[(.int p1)] below meth c s₁ [] 0 0 := Stand.of_body Bd
  have e0 : s₁.heap = h0 := by rw [← hh, Bd.state]; rfl
  have N0 := Fr.nil n0
  have pre0 : ∀ t, Steps p.tables e below (s₁.setTop (mkF m 0 #[.val (.int p1)] [])) t → Steps p.tables e below (s₁.setTop (entryFrame m #[(.int p1)] 1)) t := fun t k => castTop (ef_1 m p1) k

  obtain ⟨fs, hr, hrun, hended, hW, hsame⟩ := X0.leave (v := some (.double (13654914070187343872 : UInt64))) (fun h => by rw [Bd.returns] at h; cases h)
  refine ⟨_, _, pre0 _ ?_, hrun, hended, _, _, rfl, ?_, ⟨_, rfl⟩, hW, hsame.mono (by decide) (by decide)⟩
  · show Steps p.tables e below (s₁.setTop (mkF m 0 #[.val (.int p1)] [])) _
    refine XS.iloadN X0.here hx rfl (hb hby d1_0) rfl ?_
    show Steps p.tables e below (s₁.setTop (mkF m 1 #[.val (.int p1)] [(.int p1)])) _
    refine XS.iconst X0.here hx rfl (hb hby d1_1) ?_
    show Steps p.tables e below (s₁.setTop (mkF m 2 #[.val (.int p1)] [(.int (1 : Int32)), (.int p1)])) _
    refine XS.icmpYes X0.here hx rfl (pc0 := 2) (pc' := 9) rfl (hb hby d1_2) rfl (feq hc2).2 (by decide) (by decide) ?_
    show Steps p.tables e below (s₁.setTop (mkF m 9 #[.val (.int p1)] [])) _
    refine XS.iloadN X0.here hx rfl (hb hby d1_9) rfl ?_
    show Steps p.tables e below (s₁.setTop (mkF m 10 #[.val (.int p1)] [(.int p1)])) _
    refine XS.iconst X0.here hx rfl (hb hby d1_10) ?_
    show Steps p.tables e below (s₁.setTop (mkF m 11 #[.val (.int p1)] [(.int (2 : Int32)), (.int p1)])) _
    refine XS.icmpYes X0.here hx rfl (pc0 := 11) (pc' := 18) rfl (hb hby d1_11) rfl (feq hc11).2 (by decide) (by decide) ?_
    show Steps p.tables e below (s₁.setTop (mkF m 18 #[.val (.int p1)] [])) _
    refine XS.iloadN X0.here hx rfl (hb hby d1_18) rfl ?_
    show Steps p.tables e below (s₁.setTop (mkF m 19 #[.val (.int p1)] [(.int p1)])) _
    refine XS.iconst X0.here hx rfl (hb hby d1_19) ?_
    show Steps p.tables e below (s₁.setTop (mkF m 20 #[.val (.int p1)] [(.int (3 : Int32)), (.int p1)])) _
    refine XS.icmpYes X0.here hx rfl (pc0 := 20) (pc' := 27) rfl (hb hby d1_20) rfl (feq hc20).2 (by decide) (by decide) ?_
    show Steps p.tables e below (s₁.setTop (mkF m 27 #[.val (.int p1)] [])) _
    refine XS.iloadN X0.here hx rfl (hb hby d1_27) rfl ?_
    show Steps p.tables e below (s₁.setTop (mkF m 28 #[.val (.int p1)] [(.int p1)])) _
    refine XS.iconst X0.here hx rfl (hb hby d1_28) ?_
    show Steps p.tables e below (s₁.setTop (mkF m 29 #[.val (.int p1)] [(.int (4 : Int32)), (.int p1)])) _
    refine XS.icmpNo X0.here hx rfl (hb hby d1_29) rfl (teq hc29).2 ?_
    show Steps p.tables e below (s₁.setTop (mkF m 32 #[.val (.int p1)] [])) _
    refine X0.ldc2DoubleC hx hown (mvT hZ (hw _ (List.mem_of_getElem? (i := 13) rfl))) (g := (mkF m 32 #[.val (.int p1)] [])) rfl (hb hby d1_32) _ ?_
    show Steps p.tables e below (s₁.setTop (mkF m 35 #[.val (.int p1)] [(.double (13654914070187343872 : UInt64))])) _
    jvm_step X0.here [X0.here.top, hx, (hb hby d1_35), X0.method', Bd.returns, narrow]
    first | (intro acts; rw [hr _ acts rfl rfl rfl]) | rw [hr _ _ rfl rfl rfl]
    exact Steps.refl _
  · show QP (some (.double (13654914070187343872 : UInt64))) h0 n0 _ s₁.heap _
    rw [e0]
    exact ⟨rfl, N0, rfl⟩
theorem d1_36 : decode method_2_code 36 = .ok (.dconst 0, 1) := by decide +kernel
theorem d1_37 : decode method_2_code 37 = .ok (.dreturn, 1) := by decide +kernel
set_option maxRecDepth 65536 in
set_option maxHeartbeats 40000000 in
theorem rm1_tttt (l : Launch) (Z : State) (a0 : Array Value) (hw : ∀ d ∈ tables_1, d.before a0 Z = true) (ws : List Jvm.Cond) (p1 : Int32) (h0 : Heap) (n0 : Nat) (Z0 : n0 ≤ h0.size) (hc2 : ¬ (p1 = (1 : Int32))) (hc11 : ¬ (p1 = (2 : Int32))) (hc20 : ¬ (p1 = (3 : Int32))) (hc29 : ¬ (p1 = (4 : Int32))) :
    MetFree l (⟨"com/example/loomwork/loomwork/select/UtilityBetterPinLaw", "offset", "(I)D"⟩ : MethodName) (head1 (Jvm.Cond.code (⟨"com/example/loomwork/loomwork/select/UtilityBetterPinLaw", "offset", "(I)D"⟩ : MethodName) method_2_code 1 (some .double) :: ws) ({ frames := 0, cells := 0, slots := 0, locals := 0 } : Room)) (fun a U => a = #[(.int p1)] ∧ Z.Warmed39 U.vm ∧ U.heap = h0) (fun _ _ _ _ _ => True) (fun _ U o U' => ∃ v L, o = .returned v ∧ QP (some (.double FP.dconst0)) h0 n0 v U'.heap L ∧ FrameEnd U o U' L ({ frames := 0, cells := 0, slots := 0, locals := 0 } : Room).cells ({ frames := 0, cells := 0, slots := 0, locals := 0 } : Room).slots) := by
  refine MetFree.of_bodySF (plainFor_of_name pn_1) hisR ?_
  intro p e s m args below meth c s₁ Bd hml0 hP hK
  obtain ⟨rfl, hZ, hh⟩ := hP
  have hx := Bd.exec
  have hby := Bd.bytes
  have hml : c.maxLocals = 1 := hml0
  have hown : s.vm.findClass "com/example/loomwork/loomwork/select/UtilityBetterPinLaw" = some m.cls := findClass_of_methodNamed Bd.named
  have hnm := (name_of_methodNamed Bd.named Bd.method).1
  have X0 : Stand p l e ({ frames := 0, cells := 0, slots := 0, locals := 0 } : Room) s m #[(.int p1)] below meth c s₁ [] 0 0 := Stand.of_body Bd
  have e0 : s₁.heap = h0 := by rw [← hh, Bd.state]; rfl
  have N0 := Fr.nil n0
  have pre0 : ∀ t, Steps p.tables e below (s₁.setTop (mkF m 0 #[.val (.int p1)] [])) t → Steps p.tables e below (s₁.setTop (entryFrame m #[(.int p1)] 1)) t := fun t k => castTop (ef_1 m p1) k

  obtain ⟨fs, hr, hrun, hended, hW, hsame⟩ := X0.leave (v := some (.double FP.dconst0)) (fun h => by rw [Bd.returns] at h; cases h)
  refine ⟨_, _, pre0 _ ?_, hrun, hended, _, _, rfl, ?_, ⟨_, rfl⟩, hW, hsame.mono (by decide) (by decide)⟩
  · show Steps p.tables e below (s₁.setTop (mkF m 0 #[.val (.int p1)] [])) _
    refine XS.iloadN X0.here hx rfl (hb hby d1_0) rfl ?_
    show Steps p.tables e below (s₁.setTop (mkF m 1 #[.val (.int p1)] [(.int p1)])) _
    refine XS.iconst X0.here hx rfl (hb hby d1_1) ?_
    show Steps p.tables e below (s₁.setTop (mkF m 2 #[.val (.int p1)] [(.int (1 : Int32)), (.int p1)])) _
    refine XS.icmpYes X0.here hx rfl (pc0 := 2) (pc' := 9) rfl (hb hby d1_2) rfl (feq hc2).2 (by decide) (by decide) ?_
    show Steps p.tables e below (s₁.setTop (mkF m 9 #[.val (.int p1)] [])) _
    refine XS.iloadN X0.here hx rfl (hb hby d1_9) rfl ?_
    show Steps p.tables e below (s₁.setTop (mkF m 10 #[.val (.int p1)] [(.int p1)])) _
    refine XS.iconst X0.here hx rfl (hb hby d1_10) ?_
    show Steps p.tables e below (s₁.setTop (mkF m 11 #[.val (.int p1)] [(.int (2 : Int32)), (.int p1)])) _
    refine XS.icmpYes X0.here hx rfl (pc0 := 11) (pc' := 18) rfl (hb hby d1_11) rfl (feq hc11).2 (by decide) (by decide) ?_
    show Steps p.tables e below (s₁.setTop (mkF m 18 #[.val (.int p1)] [])) _
    refine XS.iloadN X0.here hx rfl (hb hby d1_18) rfl ?_
    show Steps p.tables e below (s₁.setTop (mkF m 19 #[.val (.int p1)] [(.int p1)])) _
    refine XS.iconst X0.here hx rfl (hb hby d1_19) ?_
    show Steps p.tables e below (s₁.setTop (mkF m 20 #[.val (.int p1)] [(.int (3 : Int32)), (.int p1)])) _
    refine XS.icmpYes X0.here hx rfl (pc0 := 20) (pc' := 27) rfl (hb hby d1_20) rfl (feq hc20).2 (by decide) (by decide) ?_
    show Steps p.tables e below (s₁.setTop (mkF m 27 #[.val (.int p1)] [])) _
    refine XS.iloadN X0.here hx rfl (hb hby d1_27) rfl ?_
    show Steps p.tables e below (s₁.setTop (mkF m 28 #[.val (.int p1)] [(.int p1)])) _
    refine XS.iconst X0.here hx rfl (hb hby d1_28) ?_
    show Steps p.tables e below (s₁.setTop (mkF m 29 #[.val (.int p1)] [(.int (4 : Int32)), (.int p1)])) _
    refine XS.icmpYes X0.here hx rfl (pc0 := 29) (pc' := 36) rfl (hb hby d1_29) rfl (feq hc29).2 (by decide) (by decide) ?_
    show Steps p.tables e below (s₁.setTop (mkF m 36 #[.val (.int p1)] [])) _
    refine XS.dconst0 X0.here hx rfl (hb hby d1_36) rfl ?_
    show Steps p.tables e below (s₁.setTop (mkF m 37 #[.val (.int p1)] [(.double FP.dconst0)])) _
    jvm_step X0.here [X0.here.top, hx, (hb hby d1_37), X0.method', Bd.returns, narrow]
    first | (intro acts; rw [hr _ acts rfl rfl rfl]) | rw [hr _ _ rfl rfl rfl]
    exact Steps.refl _
  · show QP (some (.double FP.dconst0)) h0 n0 _ s₁.heap _
    rw [e0]
    exact ⟨rfl, N0, rfl⟩
theorem rm1 (l : Launch) (Z : State) (a0 : Array Value) (hw : ∀ d ∈ tables_1, d.before a0 Z = true) (ws : List Jvm.Cond) (p1 : Int32) (h0 : Heap) (n0 : Nat) (Z0 : n0 ≤ h0.size) :
    MetFree l (⟨"com/example/loomwork/loomwork/select/UtilityBetterPinLaw", "offset", "(I)D"⟩ : MethodName) (head1 (Jvm.Cond.code (⟨"com/example/loomwork/loomwork/select/UtilityBetterPinLaw", "offset", "(I)D"⟩ : MethodName) method_2_code 1 (some .double) :: ws) ({ frames := 0, cells := 0, slots := 0, locals := 0 } : Room)) (fun a U => a = #[(.int p1)] ∧ Z.Warmed39 U.vm ∧ U.heap = h0) (fun _ _ _ _ _ => True) (fun _ U o U' => ∃ v L, o = .returned v ∧ QP (some (.double (F1 p1))) h0 n0 v U'.heap L ∧ FrameEnd U o U' L ({ frames := 0, cells := 0, slots := 0, locals := 0 } : Room).cells ({ frames := 0, cells := 0, slots := 0, locals := 0 } : Room).slots) := by
  by_cases h1 : p1 = (1 : Int32)
  · rw [show F1 p1 = _ from if_pos h1]; exact rm1_f l Z a0 hw ws p1 h0 n0 Z0 h1
  · by_cases h2 : p1 = (2 : Int32)
    · rw [show F1 p1 = _ from (if_neg h1).trans (if_pos h2)]; exact rm1_tf l Z a0 hw ws p1 h0 n0 Z0 h1 h2
    · by_cases h3 : p1 = (3 : Int32)
      · rw [show F1 p1 = _ from (if_neg h1).trans ((if_neg h2).trans (if_pos h3))]; exact rm1_ttf l Z a0 hw ws p1 h0 n0 Z0 h1 h2 h3
      · by_cases h4 : p1 = (4 : Int32)
        · rw [show F1 p1 = _ from (if_neg h1).trans ((if_neg h2).trans ((if_neg h3).trans (if_pos h4)))]; exact rm1_tttf l Z a0 hw ws p1 h0 n0 Z0 h1 h2 h3 h4
        · rw [show F1 p1 = _ from (if_neg h1).trans ((if_neg h2).trans ((if_neg h3).trans (if_neg h4)))]; exact rm1_tttt l Z a0 hw ws p1 h0 n0 Z0 h1 h2 h3 h4
theorem d2_0 : decode prog_36_method_5_code 0 = .ok (.dload_n 0, 1) := by decide +kernel
theorem d2_1 : decode prog_36_method_5_code 1 = .ok (.dload_n 2, 1) := by decide +kernel
theorem d2_2 : decode prog_36_method_5_code 2 = .ok (.ldc2_w 47, 3) := by decide +kernel
theorem d2_5 : decode prog_36_method_5_code 5 = .ok (.dadd, 1) := by decide +kernel
theorem d2_6 : decode prog_36_method_5_code 6 = .ok (.dcmp .l, 1) := by decide +kernel
theorem d2_7 : decode prog_36_method_5_code 7 = .ok (.ifCond .le 7, 3) := by decide +kernel
theorem d2_14 : decode prog_36_method_5_code 14 = .ok (.iconst 0, 1) := by decide +kernel
theorem d2_15 : decode prog_36_method_5_code 15 = .ok (.ireturn, 1) := by decide +kernel
theorem pn_2 : plainName "com/example/loomwork/loomwork/select/Utility" = true := by first | (simp [plainName, overriddenIn]; done) | decide +kernel
theorem ef_2 (m : MethodId) (x0 : UInt64) (x1 : UInt64) : entryFrame m #[(.double x0), (.double x1)] 4 = mkF m 0 #[.val (.double x0), .second, .val (.double x1), .second] [] := by first | (simp [entryFrame, mkF, argsToLocals, Value.category]; done) | rfl
set_option maxRecDepth 65536 in
set_option maxHeartbeats 40000000 in
theorem rm2_t (l : Launch) (Z : State) (a0 : Array Value) (hw : ∀ d ∈ tables_1, d.before a0 Z = true) (ws : List Jvm.Cond) (u1 : UInt64) (u2 : UInt64) (r5 : UInt64) (h0 : Heap) (n0 : Nat) (Z0 : n0 ≤ h0.size) (hv5 : (FP.dadd u2 (4427486594234968593 : UInt64)) = r5) (hn5 : Jvm.Free.Fl.NoNaN64 (FP.dadd u2 (4427486594234968593 : UInt64))) (hc7 : ¬ ((0 : Int32) < (cmpValue (FP.dcmp u1 r5) .l))) :
    MetFree l (⟨"com/example/loomwork/loomwork/select/Utility", "better", "(DD)Z"⟩ : MethodName) (head1 (Jvm.Cond.code (⟨"com/example/loomwork/loomwork/select/Utility", "better", "(DD)Z"⟩ : MethodName) prog_36_method_5_code 4 (some .boolean) :: ws) ({ frames := 0, cells := 0, slots := 0, locals := 0 } : Room)) (fun a U => a = #[(.double u1), (.double u2)] ∧ Z.Warmed39 U.vm ∧ U.heap = h0) (fun _ _ _ _ _ => True) (fun _ U o U' => ∃ v L, o = .returned v ∧ QP (some (.int (0 : Int32))) h0 n0 v U'.heap L ∧ FrameEnd U o U' L ({ frames := 0, cells := 0, slots := 0, locals := 0 } : Room).cells ({ frames := 0, cells := 0, slots := 0, locals := 0 } : Room).slots) := by
  refine MetFree.of_bodySF (plainFor_of_name pn_2) hisR ?_
  intro p e s m args below meth c s₁ Bd hml0 hP hK
  obtain ⟨rfl, hZ, hh⟩ := hP
  have hx := Bd.exec
  have hby := Bd.bytes
  have hml : c.maxLocals = 4 := hml0
  have hown : s.vm.findClass "com/example/loomwork/loomwork/select/Utility" = some m.cls := findClass_of_methodNamed Bd.named
  have hnm := (name_of_methodNamed Bd.named Bd.method).1
  have X0 : Stand p l e ({ frames := 0, cells := 0, slots := 0, locals := 0 } : Room) s m #[(.double u1), (.double u2)] below meth c s₁ [] 0 0 := Stand.of_body Bd
  have e0 : s₁.heap = h0 := by rw [← hh, Bd.state]; rfl
  have N0 := Fr.nil n0
  have pre0 : ∀ t, Steps p.tables e below (s₁.setTop (mkF m 0 #[.val (.double u1), .second, .val (.double u2), .second] [])) t → Steps p.tables e below (s₁.setTop (entryFrame m #[(.double u1), (.double u2)] 4)) t := fun t k => castTop (ef_2 m u1 u2) k

  obtain ⟨fs, hr, hrun, hended, hW, hsame⟩ := X0.leave (v := some (.int (0 : Int32))) (fun h => by rw [Bd.returns] at h; cases h)
  refine ⟨_, _, pre0 _ ?_, hrun, hended, _, _, rfl, ?_, ⟨_, rfl⟩, hW, hsame.mono (by decide) (by decide)⟩
  · show Steps p.tables e below (s₁.setTop (mkF m 0 #[.val (.double u1), .second, .val (.double u2), .second] [])) _
    refine XS.dloadN X0.here hx rfl (hb hby d2_0) rfl ?_
    show Steps p.tables e below (s₁.setTop (mkF m 1 #[.val (.double u1), .second, .val (.double u2), .second] [(.double u1)])) _
    refine XS.dloadN X0.here hx rfl (hb hby d2_1) rfl ?_
    show Steps p.tables e below (s₁.setTop (mkF m 2 #[.val (.double u1), .second, .val (.double u2), .second] [(.double u2), (.double u1)])) _
    refine X0.ldc2DoubleC hx hown (mvT hZ (hw _ (List.mem_of_getElem? (i := 11) rfl))) (g := (mkF m 2 #[.val (.double u1), .second, .val (.double u2), .second] [(.double u2), (.double u1)])) rfl (hb hby d2_2) _ ?_
    show Steps p.tables e below (s₁.setTop (mkF m 5 #[.val (.double u1), .second, .val (.double u2), .second] [(.double (4427486594234968593 : UInt64)), (.double u2), (.double u1)])) _
    refine XS.daddS X0.here hx rfl (hb hby d2_5) rfl hn5 hv5 ?_
    show Steps p.tables e below (s₁.setTop (mkF m 6 #[.val (.double u1), .second, .val (.double u2), .second] [(.double r5), (.double u1)])) _
    refine XS.dcmpS X0.here hx rfl (hb hby d2_6) rfl rfl ?_
    show Steps p.tables e below (s₁.setTop (mkF m 7 #[.val (.double u1), .second, .val (.double u2), .second] [(.int (cmpValue (FP.dcmp u1 r5) .l))])) _
    refine XS.ifYes X0.here hx rfl (pc0 := 7) (pc' := 14) rfl (hb hby d2_7) rfl ((if0 _ _).trans (flt hc7).2.2.2) (by decide) (by decide) ?_
    show Steps p.tables e below (s₁.setTop (mkF m 14 #[.val (.double u1), .second, .val (.double u2), .second] [])) _
    refine XS.iconst X0.here hx rfl (hb hby d2_14) ?_
    show Steps p.tables e below (s₁.setTop (mkF m 15 #[.val (.double u1), .second, .val (.double u2), .second] [(.int (0 : Int32))])) _
    exact retN X0 hx (t := .boolean) Bd.returns (by simp) (hb hby d2_15) hr
  · show QP (some (.int (0 : Int32))) h0 n0 _ s₁.heap _
    rw [e0]
    exact ⟨rfl, N0, rfl⟩
theorem d2_10 : decode prog_36_method_5_code 10 = .ok (.iconst 1, 1) := by decide +kernel
theorem d2_11 : decode prog_36_method_5_code 11 = .ok (.goto 4, 3) := by decide +kernel
set_option maxRecDepth 65536 in
set_option maxHeartbeats 40000000 in
theorem rm2_f (l : Launch) (Z : State) (a0 : Array Value) (hw : ∀ d ∈ tables_1, d.before a0 Z = true) (ws : List Jvm.Cond) (u1 : UInt64) (u2 : UInt64) (r5 : UInt64) (h0 : Heap) (n0 : Nat) (Z0 : n0 ≤ h0.size) (hv5 : (FP.dadd u2 (4427486594234968593 : UInt64)) = r5) (hn5 : Jvm.Free.Fl.NoNaN64 (FP.dadd u2 (4427486594234968593 : UInt64))) (hc7 : (0 : Int32) < (cmpValue (FP.dcmp u1 r5) .l)) :
    MetFree l (⟨"com/example/loomwork/loomwork/select/Utility", "better", "(DD)Z"⟩ : MethodName) (head1 (Jvm.Cond.code (⟨"com/example/loomwork/loomwork/select/Utility", "better", "(DD)Z"⟩ : MethodName) prog_36_method_5_code 4 (some .boolean) :: ws) ({ frames := 0, cells := 0, slots := 0, locals := 0 } : Room)) (fun a U => a = #[(.double u1), (.double u2)] ∧ Z.Warmed39 U.vm ∧ U.heap = h0) (fun _ _ _ _ _ => True) (fun _ U o U' => ∃ v L, o = .returned v ∧ QP (some (.int (1 : Int32))) h0 n0 v U'.heap L ∧ FrameEnd U o U' L ({ frames := 0, cells := 0, slots := 0, locals := 0 } : Room).cells ({ frames := 0, cells := 0, slots := 0, locals := 0 } : Room).slots) := by
  refine MetFree.of_bodySF (plainFor_of_name pn_2) hisR ?_
  intro p e s m args below meth c s₁ Bd hml0 hP hK
  obtain ⟨rfl, hZ, hh⟩ := hP
  have hx := Bd.exec
  have hby := Bd.bytes
  have hml : c.maxLocals = 4 := hml0
  have hown : s.vm.findClass "com/example/loomwork/loomwork/select/Utility" = some m.cls := findClass_of_methodNamed Bd.named
  have hnm := (name_of_methodNamed Bd.named Bd.method).1
  have X0 : Stand p l e ({ frames := 0, cells := 0, slots := 0, locals := 0 } : Room) s m #[(.double u1), (.double u2)] below meth c s₁ [] 0 0 := Stand.of_body Bd
  have e0 : s₁.heap = h0 := by rw [← hh, Bd.state]; rfl
  have N0 := Fr.nil n0
  have pre0 : ∀ t, Steps p.tables e below (s₁.setTop (mkF m 0 #[.val (.double u1), .second, .val (.double u2), .second] [])) t → Steps p.tables e below (s₁.setTop (entryFrame m #[(.double u1), (.double u2)] 4)) t := fun t k => castTop (ef_2 m u1 u2) k

  obtain ⟨fs, hr, hrun, hended, hW, hsame⟩ := X0.leave (v := some (.int (1 : Int32))) (fun h => by rw [Bd.returns] at h; cases h)
  refine ⟨_, _, pre0 _ ?_, hrun, hended, _, _, rfl, ?_, ⟨_, rfl⟩, hW, hsame.mono (by decide) (by decide)⟩
  · show Steps p.tables e below (s₁.setTop (mkF m 0 #[.val (.double u1), .second, .val (.double u2), .second] [])) _
    refine XS.dloadN X0.here hx rfl (hb hby d2_0) rfl ?_
    show Steps p.tables e below (s₁.setTop (mkF m 1 #[.val (.double u1), .second, .val (.double u2), .second] [(.double u1)])) _
    refine XS.dloadN X0.here hx rfl (hb hby d2_1) rfl ?_
    show Steps p.tables e below (s₁.setTop (mkF m 2 #[.val (.double u1), .second, .val (.double u2), .second] [(.double u2), (.double u1)])) _
    refine X0.ldc2DoubleC hx hown (mvT hZ (hw _ (List.mem_of_getElem? (i := 11) rfl))) (g := (mkF m 2 #[.val (.double u1), .second, .val (.double u2), .second] [(.double u2), (.double u1)])) rfl (hb hby d2_2) _ ?_
    show Steps p.tables e below (s₁.setTop (mkF m 5 #[.val (.double u1), .second, .val (.double u2), .second] [(.double (4427486594234968593 : UInt64)), (.double u2), (.double u1)])) _
    refine XS.daddS X0.here hx rfl (hb hby d2_5) rfl hn5 hv5 ?_
    show Steps p.tables e below (s₁.setTop (mkF m 6 #[.val (.double u1), .second, .val (.double u2), .second] [(.double r5), (.double u1)])) _
    refine XS.dcmpS X0.here hx rfl (hb hby d2_6) rfl rfl ?_
    show Steps p.tables e below (s₁.setTop (mkF m 7 #[.val (.double u1), .second, .val (.double u2), .second] [(.int (cmpValue (FP.dcmp u1 r5) .l))])) _
    refine XS.ifNo X0.here hx rfl (hb hby d2_7) rfl ((if0 _ _).trans (tlt hc7).2.2.2) ?_
    show Steps p.tables e below (s₁.setTop (mkF m 10 #[.val (.double u1), .second, .val (.double u2), .second] [])) _
    refine XS.iconst X0.here hx rfl (hb hby d2_10) ?_
    show Steps p.tables e below (s₁.setTop (mkF m 11 #[.val (.double u1), .second, .val (.double u2), .second] [(.int (1 : Int32))])) _
    refine XS.goto X0.here hx rfl (pc0 := 11) (pc' := 15) rfl (hb hby d2_11) (by decide) (by decide) ?_
    show Steps p.tables e below (s₁.setTop (mkF m 15 #[.val (.double u1), .second, .val (.double u2), .second] [(.int (1 : Int32))])) _
    exact retN X0 hx (t := .boolean) Bd.returns (by simp) (hb hby d2_15) hr
  · show QP (some (.int (1 : Int32))) h0 n0 _ s₁.heap _
    rw [e0]
    exact ⟨rfl, N0, rfl⟩
theorem rm2 (l : Launch) (Z : State) (a0 : Array Value) (hw : ∀ d ∈ tables_1, d.before a0 Z = true) (ws : List Jvm.Cond) (u1 : UInt64) (u2 : UInt64) (h0 : Heap) (n0 : Nat) (Z0 : n0 ≤ h0.size) (hn : Jvm.Free.Fl.NoNaN64 (FP.dadd u2 (4427486594234968593 : UInt64))) :
    MetFree l (⟨"com/example/loomwork/loomwork/select/Utility", "better", "(DD)Z"⟩ : MethodName) (head1 (Jvm.Cond.code (⟨"com/example/loomwork/loomwork/select/Utility", "better", "(DD)Z"⟩ : MethodName) prog_36_method_5_code 4 (some .boolean) :: ws) ({ frames := 0, cells := 0, slots := 0, locals := 0 } : Room)) (fun a U => a = #[(.double u1), (.double u2)] ∧ Z.Warmed39 U.vm ∧ U.heap = h0) (fun _ _ _ _ _ => True) (fun _ U o U' => ∃ v L, o = .returned v ∧ QP (some (.int (F2 u1 u2))) h0 n0 v U'.heap L ∧ FrameEnd U o U' L ({ frames := 0, cells := 0, slots := 0, locals := 0 } : Room).cells ({ frames := 0, cells := 0, slots := 0, locals := 0 } : Room).slots) := by
  by_cases h : (0 : Int32) < cmpValue (FP.dcmp u1 (FP.dadd u2 (4427486594234968593 : UInt64))) .l
  · rw [show F2 u1 u2 = 1 from if_pos h]; exact rm2_f l Z a0 hw ws u1 u2 _ h0 n0 Z0 rfl hn h
  · rw [show F2 u1 u2 = 0 from if_neg h]; exact rm2_t l Z a0 hw ws u1 u2 _ h0 n0 Z0 rfl hn h
theorem pn_0 : plainName "com/example/loomwork/loomwork/select/UtilityBetterPinLaw" = true := by first | (simp [plainName, overriddenIn]; done) | decide +kernel
theorem pd_0_0 : parseMethodDescriptor "(I)D" = some ⟨[.int], some .double⟩ := by decide +kernel
theorem pd_0_1 : parseMethodDescriptor "(DD)Z" = some ⟨[.double, .double], some .boolean⟩ := by decide +kernel
theorem ef_0 (m : MethodId) (x0 : Int32) (x1 : Int32) (x2 : Int32) : entryFrame m #[(.int x0), (.int x1), (.int x2)] maxLocals = mkF m 0 #[.val (.int x0), .val (.int x1), .val (.int x2), .unset, .unset, .unset, .unset, .unset, .unset, .unset, .unset, .unset, .unset] [] := by first | (simp [entryFrame, mkF, argsToLocals, Value.category, maxLocals]; done) | rfl
set_option maxRecDepth 65536 in
set_option maxHeartbeats 40000000 in
theorem rm0_fff (l : Launch) (Z : State) (a0 : Array Value) (hw : ∀ d ∈ tables_1, d.before a0 Z = true) (ws : List Jvm.Cond) (p1 : Int32) (p2 : Int32) (p3 : Int32) (kk9 : Int32) (kk19 : Int32) (kk27 : Int32) (r34 : UInt64) (r43 : UInt64) (r53 : UInt64) (h0 : Heap) (n0 : Nat) (Z0 : n0 ≤ h0.size) (hk9 : ((p1 &&& (2047 : Int32)) % (1025 : Int32)) = kk9) (hk19 : ((p2 &&& (2047 : Int32)) % (1025 : Int32)) = kk19) (hk27 : ((p3 &&& (2147483647 : Int32)) % (5 : Int32)) = kk27) (hv34 : (FP.ddiv (FP.i2d kk9) (4652218415073722368 : UInt64)) = r34) (hn34 : Jvm.Free.Fl.NoNaN64 (FP.ddiv (FP.i2d kk9) (4652218415073722368 : UInt64))) (hv43 : (FP.ddiv (FP.i2d kk19) (4652218415073722368 : UInt64)) = r43) (hn43 : Jvm.Free.Fl.NoNaN64 (FP.ddiv (FP.i2d kk19) (4652218415073722368 : UInt64))) (hv53 : (FP.dadd r43 (F1 kk27)) = r53) (hn53 : Jvm.Free.Fl.NoNaN64 (FP.dadd r43 (F1 kk27))) (hc59 : ¬ (kk19 = kk9)) (hc65 : kk9 < kk19) (hq1 : (F2 r53 r34) = (1 : Int32)) (hnB : Jvm.Free.Fl.NoNaN64 (FP.dadd r34 (4427486594234968593 : UInt64))) :
    MetFree l x (head1 (Jvm.Cond.code x code maxLocals ret :: ws) room_1) (fun a U => a = #[(.int p1), (.int p2), (.int p3)] ∧ Z.Warmed39 U.vm ∧ U.heap = h0) (fun _ _ _ _ _ => True) (fun _ U o U' => ∃ v L, o = .returned v ∧ QL n0 v U'.heap L ∧ FrameEnd U o U' L room_1.cells room_1.slots) := by
  refine MetFree.of_bodySF (plainFor_of_name pn_0) hisR ?_
  intro p e s m args below meth c s₁ Bd hml0 hP hK
  obtain ⟨rfl, hZ, hh⟩ := hP
  have hx := Bd.exec
  have hby := Bd.bytes
  have hml : c.maxLocals = 13 := hml0
  have hown : s.vm.findClass "com/example/loomwork/loomwork/select/UtilityBetterPinLaw" = some m.cls := findClass_of_methodNamed Bd.named
  have hnm := (name_of_methodNamed Bd.named Bd.method).1
  have X0 : Stand p l e room_1 s m #[(.int p1), (.int p2), (.int p3)] below meth c s₁ [] 0 0 := Stand.of_body Bd
  have e0 : s₁.heap = h0 := by rw [← hh, Bd.state]; rfl
  have N0 := Fr.nil n0
  have pre0 : ∀ t, Steps p.tables e below (s₁.setTop (mkF m 0 #[.val (.int p1), .val (.int p2), .val (.int p3), .unset, .unset, .unset, .unset, .unset, .unset, .unset, .unset, .unset, .unset] [])) t → Steps p.tables e below (s₁.setTop (entryFrame m #[(.int p1), (.int p2), (.int p3)] maxLocals)) t := fun t k => castTop (ef_0 m p1 p2 p3) k
  obtain ⟨_, _, ⟨T4, L4, k4, n4⟩, -, X4, ⟨Lc4, hQ4, l4, y4, z4⟩, st4⟩ := Jvm.LawKit.callS X0 hx (y := (⟨"com/example/loomwork/loomwork/select/UtilityBetterPinLaw", "offset", "(I)D"⟩ : MethodName)) hown (mvT hZ (hw _ (List.mem_of_getElem? (i := 2) rfl))) (mvT hZ (hw _ (List.mem_of_getElem? (i := 3) rfl))) (mvT hZ (hw _ (List.mem_of_getElem? (i := 4) rfl))) (mvT hZ (hw _ (List.mem_of_getElem? (i := 5) rfl))) (by decide) (backOf (W := 2) (rm1 l Z a0 hw [] kk27 h0 n0 Z0) hZ (hw _ (List.mem_of_getElem? (i := 5) rfl)) (hw _ (List.mem_of_getElem? (i := 4) rfl)) (by decide) (by decide)) (g := (mkF m 50 #[.val (.int p1), .val (.int p2), .val (.int p3), .val (.int kk9), .val (.int kk19), .val (.int kk27), .val (.double r34), .second, .val (.double r43), .second, .unset, .unset, .unset] [(.int kk27), (.double r43)])) rfl (by rw [hml]; rfl) (argsL := [(.int kk27)]) (rest := [(.double r43)]) (lenOf pd_0_0 rfl) rfl (by show 2 * 0 + _ ≤ _; exact Nat.le_of_eq rfl) (hb hby at_50) (fun _ _ => ⟨rfl, e0, (by decide : 0 + 0 ≤ _), (by decide : 0 + 0 ≤ _)⟩)
  dsimp only [Pt.U, Pt.locs, Pt.cells, Pt.slots] at X4 l4 y4 z4 st4 hQ4
  subst l4 y4 z4
  obtain ⟨rfl, N4q, eh4⟩ := hQ4
  have N4 := Fr.app N0 N4q
  obtain ⟨_, _, ⟨T5, L5, k5, n5⟩, -, X5, ⟨Lc5, hQ5, l5, y5, z5⟩, st5⟩ := Jvm.LawKit.callS X4 hx (y := (⟨"com/example/loomwork/loomwork/select/Utility", "better", "(DD)Z"⟩ : MethodName)) hown (mvT hZ (hw _ (List.mem_of_getElem? (i := 7) rfl))) (mvT hZ (hw _ (List.mem_of_getElem? (i := 8) rfl))) (mvT hZ (hw _ (List.mem_of_getElem? (i := 9) rfl))) (mvT hZ (hw _ (List.mem_of_getElem? (i := 10) rfl))) (by decide) (backOf (W := 0) (rm2 l Z a0 hw [] r53 r34 T4.heap n0 (by rw [eh4]; exact Z0) hnB) hZ (hw _ (List.mem_of_getElem? (i := 10) rfl)) (hw _ (List.mem_of_getElem? (i := 9) rfl)) (by decide) (by decide)) (g := (mkF m 95 #[.val (.int p1), .val (.int p2), .val (.int p3), .val (.int kk9), .val (.int kk19), .val (.int kk27), .val (.double r34), .second, .val (.double r43), .second, .val (.double r53), .second, .val (.int (1 : Int32))] [(.double r34), (.double r53)])) rfl (by rw [hml]; rfl) (argsL := [(.double r53), (.double r34)]) (rest := []) (lenOf pd_0_1 rfl) rfl (by show 2 * 0 + _ ≤ _; exact Nat.le_of_eq rfl) (hb hby at_95) (fun _ _ => ⟨rfl, rfl, (by decide : 0 + 0 ≤ _), (by decide : 0 + 0 ≤ _)⟩)
  dsimp only [Pt.U, Pt.locs, Pt.cells, Pt.slots] at X5 l5 y5 z5 st5 hQ5
  subst l5 y5 z5
  obtain ⟨rfl, N5q, eh5⟩ := hQ5
  have N5 := Fr.app N4 N5q
  obtain ⟨fs, hr, hrun, hended, hW, hsame⟩ := X5.leave (v := some (.int (1 : Int32))) (fun h => by rw [Bd.returns] at h; cases h)
  refine ⟨_, _, pre0 _ ?_, hrun, hended, _, _, rfl, ?_, ⟨_, rfl⟩, hW, hsame.mono (by decide) (by decide)⟩
  · show Steps p.tables e below (s₁.setTop (mkF m 0 #[.val (.int p1), .val (.int p2), .val (.int p3), .unset, .unset, .unset, .unset, .unset, .unset, .unset, .unset, .unset, .unset] [])) _
    refine XS.iloadN X0.here hx rfl (hb hby at_0) rfl ?_
    show Steps p.tables e below (s₁.setTop (mkF m 1 #[.val (.int p1), .val (.int p2), .val (.int p3), .unset, .unset, .unset, .unset, .unset, .unset, .unset, .unset, .unset, .unset] [(.int p1)])) _
    refine XS.sipush X0.here hx rfl (hb hby at_1) ?_
    show Steps p.tables e below (s₁.setTop (mkF m 4 #[.val (.int p1), .val (.int p2), .val (.int p3), .unset, .unset, .unset, .unset, .unset, .unset, .unset, .unset, .unset, .unset] [(.int (2047 : Int32)), (.int p1)])) _
    refine XS.iand X0.here hx rfl (hb hby at_4) rfl ?_
    show Steps p.tables e below (s₁.setTop (mkF m 5 #[.val (.int p1), .val (.int p2), .val (.int p3), .unset, .unset, .unset, .unset, .unset, .unset, .unset, .unset, .unset, .unset] [(.int (p1 &&& (2047 : Int32)))])) _
    refine XS.sipush X0.here hx rfl (hb hby at_5) ?_
    show Steps p.tables e below (s₁.setTop (mkF m 8 #[.val (.int p1), .val (.int p2), .val (.int p3), .unset, .unset, .unset, .unset, .unset, .unset, .unset, .unset, .unset, .unset] [(.int (1025 : Int32)), (.int (p1 &&& (2047 : Int32)))])) _
    refine iremM X0 hx rfl (hb hby at_8) rfl (by decide) ?_
    show Steps p.tables e below (s₁.setTop (mkF m 9 #[.val (.int p1), .val (.int p2), .val (.int p3), .unset, .unset, .unset, .unset, .unset, .unset, .unset, .unset, .unset, .unset] [(.int ((p1 &&& (2047 : Int32)) % (1025 : Int32)))])) _
    refine XS.istoreN X0.here hx rfl (hb hby at_9) rfl (l' := #[.val (.int p1), .val (.int p2), .val (.int p3), .val (.int ((p1 &&& (2047 : Int32)) % (1025 : Int32))), .unset, .unset, .unset, .unset, .unset, .unset, .unset, .unset, .unset]) rfl ?_
    show Steps p.tables e below (s₁.setTop (mkF m 10 #[.val (.int p1), .val (.int p2), .val (.int p3), .val (.int ((p1 &&& (2047 : Int32)) % (1025 : Int32))), .unset, .unset, .unset, .unset, .unset, .unset, .unset, .unset, .unset] [])) _
    rw [hk9]
    show Steps p.tables e below (s₁.setTop (mkF m 10 #[.val (.int p1), .val (.int p2), .val (.int p3), .val (.int kk9), .unset, .unset, .unset, .unset, .unset, .unset, .unset, .unset, .unset] [])) _
    refine XS.iloadN X0.here hx rfl (hb hby at_10) rfl ?_
    show Steps p.tables e below (s₁.setTop (mkF m 11 #[.val (.int p1), .val (.int p2), .val (.int p3), .val (.int kk9), .unset, .unset, .unset, .unset, .unset, .unset, .unset, .unset, .unset] [(.int p2)])) _
    refine XS.sipush X0.here hx rfl (hb hby at_11) ?_
    show Steps p.tables e below (s₁.setTop (mkF m 14 #[.val (.int p1), .val (.int p2), .val (.int p3), .val (.int kk9), .unset, .unset, .unset, .unset, .unset, .unset, .unset, .unset, .unset] [(.int (2047 : Int32)), (.int p2)])) _
    refine XS.iand X0.here hx rfl (hb hby at_14) rfl ?_
    show Steps p.tables e below (s₁.setTop (mkF m 15 #[.val (.int p1), .val (.int p2), .val (.int p3), .val (.int kk9), .unset, .unset, .unset, .unset, .unset, .unset, .unset, .unset, .unset] [(.int (p2 &&& (2047 : Int32)))])) _
    refine XS.sipush X0.here hx rfl (hb hby at_15) ?_
    show Steps p.tables e below (s₁.setTop (mkF m 18 #[.val (.int p1), .val (.int p2), .val (.int p3), .val (.int kk9), .unset, .unset, .unset, .unset, .unset, .unset, .unset, .unset, .unset] [(.int (1025 : Int32)), (.int (p2 &&& (2047 : Int32)))])) _
    refine iremM X0 hx rfl (hb hby at_18) rfl (by decide) ?_
    show Steps p.tables e below (s₁.setTop (mkF m 19 #[.val (.int p1), .val (.int p2), .val (.int p3), .val (.int kk9), .unset, .unset, .unset, .unset, .unset, .unset, .unset, .unset, .unset] [(.int ((p2 &&& (2047 : Int32)) % (1025 : Int32)))])) _
    refine XS.istore X0.here hx rfl (hb hby at_19) rfl (l' := #[.val (.int p1), .val (.int p2), .val (.int p3), .val (.int kk9), .val (.int ((p2 &&& (2047 : Int32)) % (1025 : Int32))), .unset, .unset, .unset, .unset, .unset, .unset, .unset, .unset]) rfl ?_
    show Steps p.tables e below (s₁.setTop (mkF m 21 #[.val (.int p1), .val (.int p2), .val (.int p3), .val (.int kk9), .val (.int ((p2 &&& (2047 : Int32)) % (1025 : Int32))), .unset, .unset, .unset, .unset, .unset, .unset, .unset, .unset] [])) _
    rw [hk19]
    show Steps p.tables e below (s₁.setTop (mkF m 21 #[.val (.int p1), .val (.int p2), .val (.int p3), .val (.int kk9), .val (.int kk19), .unset, .unset, .unset, .unset, .unset, .unset, .unset, .unset] [])) _
    refine XS.iloadN X0.here hx rfl (hb hby at_21) rfl ?_
    show Steps p.tables e below (s₁.setTop (mkF m 22 #[.val (.int p1), .val (.int p2), .val (.int p3), .val (.int kk9), .val (.int kk19), .unset, .unset, .unset, .unset, .unset, .unset, .unset, .unset] [(.int p3)])) _
    refine X0.ldcInt hx hown (mvT hZ (hw _ (List.mem_of_getElem? (i := 0) rfl))) (g := (mkF m 22 #[.val (.int p1), .val (.int p2), .val (.int p3), .val (.int kk9), .val (.int kk19), .unset, .unset, .unset, .unset, .unset, .unset, .unset, .unset] [(.int p3)])) rfl (hb hby at_22) _ ?_
    show Steps p.tables e below (s₁.setTop (mkF m 24 #[.val (.int p1), .val (.int p2), .val (.int p3), .val (.int kk9), .val (.int kk19), .unset, .unset, .unset, .unset, .unset, .unset, .unset, .unset] [(.int (2147483647 : Int32)), (.int p3)])) _
    refine XS.iand X0.here hx rfl (hb hby at_24) rfl ?_
    show Steps p.tables e below (s₁.setTop (mkF m 25 #[.val (.int p1), .val (.int p2), .val (.int p3), .val (.int kk9), .val (.int kk19), .unset, .unset, .unset, .unset, .unset, .unset, .unset, .unset] [(.int (p3 &&& (2147483647 : Int32)))])) _
    refine XS.iconst X0.here hx rfl (hb hby at_25) ?_
    show Steps p.tables e below (s₁.setTop (mkF m 26 #[.val (.int p1), .val (.int p2), .val (.int p3), .val (.int kk9), .val (.int kk19), .unset, .unset, .unset, .unset, .unset, .unset, .unset, .unset] [(.int (5 : Int32)), (.int (p3 &&& (2147483647 : Int32)))])) _
    refine iremM X0 hx rfl (hb hby at_26) rfl (by decide) ?_
    show Steps p.tables e below (s₁.setTop (mkF m 27 #[.val (.int p1), .val (.int p2), .val (.int p3), .val (.int kk9), .val (.int kk19), .unset, .unset, .unset, .unset, .unset, .unset, .unset, .unset] [(.int ((p3 &&& (2147483647 : Int32)) % (5 : Int32)))])) _
    refine XS.istore X0.here hx rfl (hb hby at_27) rfl (l' := #[.val (.int p1), .val (.int p2), .val (.int p3), .val (.int kk9), .val (.int kk19), .val (.int ((p3 &&& (2147483647 : Int32)) % (5 : Int32))), .unset, .unset, .unset, .unset, .unset, .unset, .unset]) rfl ?_
    show Steps p.tables e below (s₁.setTop (mkF m 29 #[.val (.int p1), .val (.int p2), .val (.int p3), .val (.int kk9), .val (.int kk19), .val (.int ((p3 &&& (2147483647 : Int32)) % (5 : Int32))), .unset, .unset, .unset, .unset, .unset, .unset, .unset] [])) _
    rw [hk27]
    show Steps p.tables e below (s₁.setTop (mkF m 29 #[.val (.int p1), .val (.int p2), .val (.int p3), .val (.int kk9), .val (.int kk19), .val (.int kk27), .unset, .unset, .unset, .unset, .unset, .unset, .unset] [])) _
    refine XS.iloadN X0.here hx rfl (hb hby at_29) rfl ?_
    show Steps p.tables e below (s₁.setTop (mkF m 30 #[.val (.int p1), .val (.int p2), .val (.int p3), .val (.int kk9), .val (.int kk19), .val (.int kk27), .unset, .unset, .unset, .unset, .unset, .unset, .unset] [(.int kk9)])) _
    refine XS.i2dS X0.here hx rfl (hb hby at_30) rfl rfl ?_
    show Steps p.tables e below (s₁.setTop (mkF m 31 #[.val (.int p1), .val (.int p2), .val (.int p3), .val (.int kk9), .val (.int kk19), .val (.int kk27), .unset, .unset, .unset, .unset, .unset, .unset, .unset] [(.double (FP.i2d kk9))])) _
    refine X0.ldc2DoubleC hx hown (mvT hZ (hw _ (List.mem_of_getElem? (i := 1) rfl))) (g := (mkF m 31 #[.val (.int p1), .val (.int p2), .val (.int p3), .val (.int kk9), .val (.int kk19), .val (.int kk27), .unset, .unset, .unset, .unset, .unset, .unset, .unset] [(.double (FP.i2d kk9))])) rfl (hb hby at_31) _ ?_
    show Steps p.tables e below (s₁.setTop (mkF m 34 #[.val (.int p1), .val (.int p2), .val (.int p3), .val (.int kk9), .val (.int kk19), .val (.int kk27), .unset, .unset, .unset, .unset, .unset, .unset, .unset] [(.double (4652218415073722368 : UInt64)), (.double (FP.i2d kk9))])) _
    refine XS.ddivS X0.here hx rfl (hb hby at_34) rfl hn34 hv34 ?_
    show Steps p.tables e below (s₁.setTop (mkF m 35 #[.val (.int p1), .val (.int p2), .val (.int p3), .val (.int kk9), .val (.int kk19), .val (.int kk27), .unset, .unset, .unset, .unset, .unset, .unset, .unset] [(.double r34)])) _
    refine XS.dstore X0.here hx rfl (hb hby at_35) rfl (l' := #[.val (.int p1), .val (.int p2), .val (.int p3), .val (.int kk9), .val (.int kk19), .val (.int kk27), .val (.double r34), .second, .unset, .unset, .unset, .unset, .unset]) rfl ?_
    show Steps p.tables e below (s₁.setTop (mkF m 37 #[.val (.int p1), .val (.int p2), .val (.int p3), .val (.int kk9), .val (.int kk19), .val (.int kk27), .val (.double r34), .second, .unset, .unset, .unset, .unset, .unset] [])) _
    refine XS.iload X0.here hx rfl (hb hby at_37) rfl ?_
    show Steps p.tables e below (s₁.setTop (mkF m 39 #[.val (.int p1), .val (.int p2), .val (.int p3), .val (.int kk9), .val (.int kk19), .val (.int kk27), .val (.double r34), .second, .unset, .unset, .unset, .unset, .unset] [(.int kk19)])) _
    refine XS.i2dS X0.here hx rfl (hb hby at_39) rfl rfl ?_
    show Steps p.tables e below (s₁.setTop (mkF m 40 #[.val (.int p1), .val (.int p2), .val (.int p3), .val (.int kk9), .val (.int kk19), .val (.int kk27), .val (.double r34), .second, .unset, .unset, .unset, .unset, .unset] [(.double (FP.i2d kk19))])) _
    refine X0.ldc2DoubleC hx hown (mvT hZ (hw _ (List.mem_of_getElem? (i := 1) rfl))) (g := (mkF m 40 #[.val (.int p1), .val (.int p2), .val (.int p3), .val (.int kk9), .val (.int kk19), .val (.int kk27), .val (.double r34), .second, .unset, .unset, .unset, .unset, .unset] [(.double (FP.i2d kk19))])) rfl (hb hby at_40) _ ?_
    show Steps p.tables e below (s₁.setTop (mkF m 43 #[.val (.int p1), .val (.int p2), .val (.int p3), .val (.int kk9), .val (.int kk19), .val (.int kk27), .val (.double r34), .second, .unset, .unset, .unset, .unset, .unset] [(.double (4652218415073722368 : UInt64)), (.double (FP.i2d kk19))])) _
    refine XS.ddivS X0.here hx rfl (hb hby at_43) rfl hn43 hv43 ?_
    show Steps p.tables e below (s₁.setTop (mkF m 44 #[.val (.int p1), .val (.int p2), .val (.int p3), .val (.int kk9), .val (.int kk19), .val (.int kk27), .val (.double r34), .second, .unset, .unset, .unset, .unset, .unset] [(.double r43)])) _
    refine XS.dstore X0.here hx rfl (hb hby at_44) rfl (l' := #[.val (.int p1), .val (.int p2), .val (.int p3), .val (.int kk9), .val (.int kk19), .val (.int kk27), .val (.double r34), .second, .val (.double r43), .second, .unset, .unset, .unset]) rfl ?_
    show Steps p.tables e below (s₁.setTop (mkF m 46 #[.val (.int p1), .val (.int p2), .val (.int p3), .val (.int kk9), .val (.int kk19), .val (.int kk27), .val (.double r34), .second, .val (.double r43), .second, .unset, .unset, .unset] [])) _
    refine XS.dload X0.here hx rfl (hb hby at_46) rfl ?_
    show Steps p.tables e below (s₁.setTop (mkF m 48 #[.val (.int p1), .val (.int p2), .val (.int p3), .val (.int kk9), .val (.int kk19), .val (.int kk27), .val (.double r34), .second, .val (.double r43), .second, .unset, .unset, .unset] [(.double r43)])) _
    refine XS.iload X0.here hx rfl (hb hby at_48) rfl ?_
    show Steps p.tables e below (s₁.setTop (mkF m 50 #[.val (.int p1), .val (.int p2), .val (.int p3), .val (.int kk9), .val (.int kk19), .val (.int kk27), .val (.double r34), .second, .val (.double r43), .second, .unset, .unset, .unset] [(.int kk27), (.double r43)])) _
    refine st4 _ ?_
    show Steps p.tables e below (T4.setTop (mkF m 53 #[.val (.int p1), .val (.int p2), .val (.int p3), .val (.int kk9), .val (.int kk19), .val (.int kk27), .val (.double r34), .second, .val (.double r43), .second, .unset, .unset, .unset] [(.double (F1 kk27)), (.double r43)])) _
    refine XS.daddS X4.here hx rfl (hb hby at_53) rfl hn53 hv53 ?_
    show Steps p.tables e below (T4.setTop (mkF m 54 #[.val (.int p1), .val (.int p2), .val (.int p3), .val (.int kk9), .val (.int kk19), .val (.int kk27), .val (.double r34), .second, .val (.double r43), .second, .unset, .unset, .unset] [(.double r53)])) _
    refine XS.dstore X4.here hx rfl (hb hby at_54) rfl (l' := #[.val (.int p1), .val (.int p2), .val (.int p3), .val (.int kk9), .val (.int kk19), .val (.int kk27), .val (.double r34), .second, .val (.double r43), .second, .val (.double r53), .second, .unset]) rfl ?_
    show Steps p.tables e below (T4.setTop (mkF m 56 #[.val (.int p1), .val (.int p2), .val (.int p3), .val (.int kk9), .val (.int kk19), .val (.int kk27), .val (.double r34), .second, .val (.double r43), .second, .val (.double r53), .second, .unset] [])) _
    refine XS.iload X4.here hx rfl (hb hby at_56) rfl ?_
    show Steps p.tables e below (T4.setTop (mkF m 58 #[.val (.int p1), .val (.int p2), .val (.int p3), .val (.int kk9), .val (.int kk19), .val (.int kk27), .val (.double r34), .second, .val (.double r43), .second, .val (.double r53), .second, .unset] [(.int kk19)])) _
    refine XS.iloadN X4.here hx rfl (hb hby at_58) rfl ?_
    show Steps p.tables e below (T4.setTop (mkF m 59 #[.val (.int p1), .val (.int p2), .val (.int p3), .val (.int kk9), .val (.int kk19), .val (.int kk27), .val (.double r34), .second, .val (.double r43), .second, .val (.double r53), .second, .unset] [(.int kk9), (.int kk19)])) _
    refine XS.icmpNo X4.here hx rfl (hb hby at_59) rfl (feq hc59).1 ?_
    show Steps p.tables e below (T4.setTop (mkF m 62 #[.val (.int p1), .val (.int p2), .val (.int p3), .val (.int kk9), .val (.int kk19), .val (.int kk27), .val (.double r34), .second, .val (.double r43), .second, .val (.double r53), .second, .unset] [])) _
    refine XS.iload X4.here hx rfl (hb hby at_62) rfl ?_
    show Steps p.tables e below (T4.setTop (mkF m 64 #[.val (.int p1), .val (.int p2), .val (.int p3), .val (.int kk9), .val (.int kk19), .val (.int kk27), .val (.double r34), .second, .val (.double r43), .second, .val (.double r53), .second, .unset] [(.int kk19)])) _
    refine XS.iloadN X4.here hx rfl (hb hby at_64) rfl ?_
    show Steps p.tables e below (T4.setTop (mkF m 65 #[.val (.int p1), .val (.int p2), .val (.int p3), .val (.int kk9), .val (.int kk19), .val (.int kk27), .val (.double r34), .second, .val (.double r43), .second, .val (.double r53), .second, .unset] [(.int kk9), (.int kk19)])) _
    refine XS.icmpNo X4.here hx rfl (hb hby at_65) rfl (tlt hc65).2.2.2 ?_
    show Steps p.tables e below (T4.setTop (mkF m 68 #[.val (.int p1), .val (.int p2), .val (.int p3), .val (.int kk9), .val (.int kk19), .val (.int kk27), .val (.double r34), .second, .val (.double r43), .second, .val (.double r53), .second, .unset] [])) _
    refine XS.iconst X4.here hx rfl (hb hby at_68) ?_
    show Steps p.tables e below (T4.setTop (mkF m 69 #[.val (.int p1), .val (.int p2), .val (.int p3), .val (.int kk9), .val (.int kk19), .val (.int kk27), .val (.double r34), .second, .val (.double r43), .second, .val (.double r53), .second, .unset] [(.int (1 : Int32))])) _
    refine XS.goto X4.here hx rfl (pc0 := 69) (pc' := 73) rfl (hb hby at_69) (by decide) (by decide) ?_
    show Steps p.tables e below (T4.setTop (mkF m 73 #[.val (.int p1), .val (.int p2), .val (.int p3), .val (.int kk9), .val (.int kk19), .val (.int kk27), .val (.double r34), .second, .val (.double r43), .second, .val (.double r53), .second, .unset] [(.int (1 : Int32))])) _
    refine XS.istore X4.here hx rfl (hb hby at_73) rfl (l' := #[.val (.int p1), .val (.int p2), .val (.int p3), .val (.int kk9), .val (.int kk19), .val (.int kk27), .val (.double r34), .second, .val (.double r43), .second, .val (.double r53), .second, .val (.int (1 : Int32))]) rfl ?_
    show Steps p.tables e below (T4.setTop (mkF m 75 #[.val (.int p1), .val (.int p2), .val (.int p3), .val (.int kk9), .val (.int kk19), .val (.int kk27), .val (.double r34), .second, .val (.double r43), .second, .val (.double r53), .second, .val (.int (1 : Int32))] [])) _
    refine XS.goto X4.here hx rfl (pc0 := 75) (pc' := 91) rfl (hb hby at_75) (by decide) (by decide) ?_
    show Steps p.tables e below (T4.setTop (mkF m 91 #[.val (.int p1), .val (.int p2), .val (.int p3), .val (.int kk9), .val (.int kk19), .val (.int kk27), .val (.double r34), .second, .val (.double r43), .second, .val (.double r53), .second, .val (.int (1 : Int32))] [])) _
    refine XS.dload X4.here hx rfl (hb hby at_91) rfl ?_
    show Steps p.tables e below (T4.setTop (mkF m 93 #[.val (.int p1), .val (.int p2), .val (.int p3), .val (.int kk9), .val (.int kk19), .val (.int kk27), .val (.double r34), .second, .val (.double r43), .second, .val (.double r53), .second, .val (.int (1 : Int32))] [(.double r53)])) _
    refine XS.dload X4.here hx rfl (hb hby at_93) rfl ?_
    show Steps p.tables e below (T4.setTop (mkF m 95 #[.val (.int p1), .val (.int p2), .val (.int p3), .val (.int kk9), .val (.int kk19), .val (.int kk27), .val (.double r34), .second, .val (.double r43), .second, .val (.double r53), .second, .val (.int (1 : Int32))] [(.double r34), (.double r53)])) _
    refine st5 _ ?_
    show Steps p.tables e below (T5.setTop (mkF m 98 #[.val (.int p1), .val (.int p2), .val (.int p3), .val (.int kk9), .val (.int kk19), .val (.int kk27), .val (.double r34), .second, .val (.double r43), .second, .val (.double r53), .second, .val (.int (1 : Int32))] [(.int (F2 r53 r34))])) _
    refine XS.iload X5.here hx rfl (hb hby at_98) rfl ?_
    show Steps p.tables e below (T5.setTop (mkF m 100 #[.val (.int p1), .val (.int p2), .val (.int p3), .val (.int kk9), .val (.int kk19), .val (.int kk27), .val (.double r34), .second, .val (.double r43), .second, .val (.double r53), .second, .val (.int (1 : Int32))] [(.int (1 : Int32)), (.int (F2 r53 r34))])) _
    refine XS.icmpNo X5.here hx rfl (hb hby at_100) rfl (teq hq1).2 ?_
    show Steps p.tables e below (T5.setTop (mkF m 103 #[.val (.int p1), .val (.int p2), .val (.int p3), .val (.int kk9), .val (.int kk19), .val (.int kk27), .val (.double r34), .second, .val (.double r43), .second, .val (.double r53), .second, .val (.int (1 : Int32))] [])) _
    refine XS.iconst X5.here hx rfl (hb hby at_103) ?_
    show Steps p.tables e below (T5.setTop (mkF m 104 #[.val (.int p1), .val (.int p2), .val (.int p3), .val (.int kk9), .val (.int kk19), .val (.int kk27), .val (.double r34), .second, .val (.double r43), .second, .val (.double r53), .second, .val (.int (1 : Int32))] [(.int (1 : Int32))])) _
    refine XS.goto X5.here hx rfl (pc0 := 104) (pc' := 108) rfl (hb hby at_104) (by decide) (by decide) ?_
    show Steps p.tables e below (T5.setTop (mkF m 108 #[.val (.int p1), .val (.int p2), .val (.int p3), .val (.int kk9), .val (.int kk19), .val (.int kk27), .val (.double r34), .second, .val (.double r43), .second, .val (.double r53), .second, .val (.int (1 : Int32))] [(.int (1 : Int32))])) _
    exact retN X5 hx (t := .boolean) Bd.returns (by simp) (hb hby at_108) hr
  · show QL n0 _ T5.heap _
    exact ⟨rfl, N5⟩
set_option maxRecDepth 65536 in
set_option maxHeartbeats 40000000 in
theorem rm0_ftf (l : Launch) (Z : State) (a0 : Array Value) (hw : ∀ d ∈ tables_1, d.before a0 Z = true) (ws : List Jvm.Cond) (p1 : Int32) (p2 : Int32) (p3 : Int32) (kk9 : Int32) (kk19 : Int32) (kk27 : Int32) (r34 : UInt64) (r43 : UInt64) (r53 : UInt64) (h0 : Heap) (n0 : Nat) (Z0 : n0 ≤ h0.size) (hk9 : ((p1 &&& (2047 : Int32)) % (1025 : Int32)) = kk9) (hk19 : ((p2 &&& (2047 : Int32)) % (1025 : Int32)) = kk19) (hk27 : ((p3 &&& (2147483647 : Int32)) % (5 : Int32)) = kk27) (hv34 : (FP.ddiv (FP.i2d kk9) (4652218415073722368 : UInt64)) = r34) (hn34 : Jvm.Free.Fl.NoNaN64 (FP.ddiv (FP.i2d kk9) (4652218415073722368 : UInt64))) (hv43 : (FP.ddiv (FP.i2d kk19) (4652218415073722368 : UInt64)) = r43) (hn43 : Jvm.Free.Fl.NoNaN64 (FP.ddiv (FP.i2d kk19) (4652218415073722368 : UInt64))) (hv53 : (FP.dadd r43 (F1 kk27)) = r53) (hn53 : Jvm.Free.Fl.NoNaN64 (FP.dadd r43 (F1 kk27))) (hc59 : ¬ (kk19 = kk9)) (hc65 : ¬ (kk9 < kk19)) (hq1 : (F2 r53 r34) = (0 : Int32)) (hnB : Jvm.Free.Fl.NoNaN64 (FP.dadd r34 (4427486594234968593 : UInt64))) :
    MetFree l x (head1 (Jvm.Cond.code x code maxLocals ret :: ws) room_1) (fun a U => a = #[(.int p1), (.int p2), (.int p3)] ∧ Z.Warmed39 U.vm ∧ U.heap = h0) (fun _ _ _ _ _ => True) (fun _ U o U' => ∃ v L, o = .returned v ∧ QL n0 v U'.heap L ∧ FrameEnd U o U' L room_1.cells room_1.slots) := by
  refine MetFree.of_bodySF (plainFor_of_name pn_0) hisR ?_
  intro p e s m args below meth c s₁ Bd hml0 hP hK
  obtain ⟨rfl, hZ, hh⟩ := hP
  have hx := Bd.exec
  have hby := Bd.bytes
  have hml : c.maxLocals = 13 := hml0
  have hown : s.vm.findClass "com/example/loomwork/loomwork/select/UtilityBetterPinLaw" = some m.cls := findClass_of_methodNamed Bd.named
  have hnm := (name_of_methodNamed Bd.named Bd.method).1
  have X0 : Stand p l e room_1 s m #[(.int p1), (.int p2), (.int p3)] below meth c s₁ [] 0 0 := Stand.of_body Bd
  have e0 : s₁.heap = h0 := by rw [← hh, Bd.state]; rfl
  have N0 := Fr.nil n0
  have pre0 : ∀ t, Steps p.tables e below (s₁.setTop (mkF m 0 #[.val (.int p1), .val (.int p2), .val (.int p3), .unset, .unset, .unset, .unset, .unset, .unset, .unset, .unset, .unset, .unset] [])) t → Steps p.tables e below (s₁.setTop (entryFrame m #[(.int p1), (.int p2), (.int p3)] maxLocals)) t := fun t k => castTop (ef_0 m p1 p2 p3) k
  obtain ⟨_, _, ⟨T4, L4, k4, n4⟩, -, X4, ⟨Lc4, hQ4, l4, y4, z4⟩, st4⟩ := Jvm.LawKit.callS X0 hx (y := (⟨"com/example/loomwork/loomwork/select/UtilityBetterPinLaw", "offset", "(I)D"⟩ : MethodName)) hown (mvT hZ (hw _ (List.mem_of_getElem? (i := 2) rfl))) (mvT hZ (hw _ (List.mem_of_getElem? (i := 3) rfl))) (mvT hZ (hw _ (List.mem_of_getElem? (i := 4) rfl))) (mvT hZ (hw _ (List.mem_of_getElem? (i := 5) rfl))) (by decide) (backOf (W := 2) (rm1 l Z a0 hw [] kk27 h0 n0 Z0) hZ (hw _ (List.mem_of_getElem? (i := 5) rfl)) (hw _ (List.mem_of_getElem? (i := 4) rfl)) (by decide) (by decide)) (g := (mkF m 50 #[.val (.int p1), .val (.int p2), .val (.int p3), .val (.int kk9), .val (.int kk19), .val (.int kk27), .val (.double r34), .second, .val (.double r43), .second, .unset, .unset, .unset] [(.int kk27), (.double r43)])) rfl (by rw [hml]; rfl) (argsL := [(.int kk27)]) (rest := [(.double r43)]) (lenOf pd_0_0 rfl) rfl (by show 2 * 0 + _ ≤ _; exact Nat.le_of_eq rfl) (hb hby at_50) (fun _ _ => ⟨rfl, e0, (by decide : 0 + 0 ≤ _), (by decide : 0 + 0 ≤ _)⟩)
  dsimp only [Pt.U, Pt.locs, Pt.cells, Pt.slots] at X4 l4 y4 z4 st4 hQ4
  subst l4 y4 z4
  obtain ⟨rfl, N4q, eh4⟩ := hQ4
  have N4 := Fr.app N0 N4q
  obtain ⟨_, _, ⟨T5, L5, k5, n5⟩, -, X5, ⟨Lc5, hQ5, l5, y5, z5⟩, st5⟩ := Jvm.LawKit.callS X4 hx (y := (⟨"com/example/loomwork/loomwork/select/Utility", "better", "(DD)Z"⟩ : MethodName)) hown (mvT hZ (hw _ (List.mem_of_getElem? (i := 7) rfl))) (mvT hZ (hw _ (List.mem_of_getElem? (i := 8) rfl))) (mvT hZ (hw _ (List.mem_of_getElem? (i := 9) rfl))) (mvT hZ (hw _ (List.mem_of_getElem? (i := 10) rfl))) (by decide) (backOf (W := 0) (rm2 l Z a0 hw [] r53 r34 T4.heap n0 (by rw [eh4]; exact Z0) hnB) hZ (hw _ (List.mem_of_getElem? (i := 10) rfl)) (hw _ (List.mem_of_getElem? (i := 9) rfl)) (by decide) (by decide)) (g := (mkF m 95 #[.val (.int p1), .val (.int p2), .val (.int p3), .val (.int kk9), .val (.int kk19), .val (.int kk27), .val (.double r34), .second, .val (.double r43), .second, .val (.double r53), .second, .val (.int (0 : Int32))] [(.double r34), (.double r53)])) rfl (by rw [hml]; rfl) (argsL := [(.double r53), (.double r34)]) (rest := []) (lenOf pd_0_1 rfl) rfl (by show 2 * 0 + _ ≤ _; exact Nat.le_of_eq rfl) (hb hby at_95) (fun _ _ => ⟨rfl, rfl, (by decide : 0 + 0 ≤ _), (by decide : 0 + 0 ≤ _)⟩)
  dsimp only [Pt.U, Pt.locs, Pt.cells, Pt.slots] at X5 l5 y5 z5 st5 hQ5
  subst l5 y5 z5
  obtain ⟨rfl, N5q, eh5⟩ := hQ5
  have N5 := Fr.app N4 N5q
  obtain ⟨fs, hr, hrun, hended, hW, hsame⟩ := X5.leave (v := some (.int (1 : Int32))) (fun h => by rw [Bd.returns] at h; cases h)
  refine ⟨_, _, pre0 _ ?_, hrun, hended, _, _, rfl, ?_, ⟨_, rfl⟩, hW, hsame.mono (by decide) (by decide)⟩
  · show Steps p.tables e below (s₁.setTop (mkF m 0 #[.val (.int p1), .val (.int p2), .val (.int p3), .unset, .unset, .unset, .unset, .unset, .unset, .unset, .unset, .unset, .unset] [])) _
    refine XS.iloadN X0.here hx rfl (hb hby at_0) rfl ?_
    show Steps p.tables e below (s₁.setTop (mkF m 1 #[.val (.int p1), .val (.int p2), .val (.int p3), .unset, .unset, .unset, .unset, .unset, .unset, .unset, .unset, .unset, .unset] [(.int p1)])) _
    refine XS.sipush X0.here hx rfl (hb hby at_1) ?_
    show Steps p.tables e below (s₁.setTop (mkF m 4 #[.val (.int p1), .val (.int p2), .val (.int p3), .unset, .unset, .unset, .unset, .unset, .unset, .unset, .unset, .unset, .unset] [(.int (2047 : Int32)), (.int p1)])) _
    refine XS.iand X0.here hx rfl (hb hby at_4) rfl ?_
    show Steps p.tables e below (s₁.setTop (mkF m 5 #[.val (.int p1), .val (.int p2), .val (.int p3), .unset, .unset, .unset, .unset, .unset, .unset, .unset, .unset, .unset, .unset] [(.int (p1 &&& (2047 : Int32)))])) _
    refine XS.sipush X0.here hx rfl (hb hby at_5) ?_
    show Steps p.tables e below (s₁.setTop (mkF m 8 #[.val (.int p1), .val (.int p2), .val (.int p3), .unset, .unset, .unset, .unset, .unset, .unset, .unset, .unset, .unset, .unset] [(.int (1025 : Int32)), (.int (p1 &&& (2047 : Int32)))])) _
    refine iremM X0 hx rfl (hb hby at_8) rfl (by decide) ?_
    show Steps p.tables e below (s₁.setTop (mkF m 9 #[.val (.int p1), .val (.int p2), .val (.int p3), .unset, .unset, .unset, .unset, .unset, .unset, .unset, .unset, .unset, .unset] [(.int ((p1 &&& (2047 : Int32)) % (1025 : Int32)))])) _
    refine XS.istoreN X0.here hx rfl (hb hby at_9) rfl (l' := #[.val (.int p1), .val (.int p2), .val (.int p3), .val (.int ((p1 &&& (2047 : Int32)) % (1025 : Int32))), .unset, .unset, .unset, .unset, .unset, .unset, .unset, .unset, .unset]) rfl ?_
    show Steps p.tables e below (s₁.setTop (mkF m 10 #[.val (.int p1), .val (.int p2), .val (.int p3), .val (.int ((p1 &&& (2047 : Int32)) % (1025 : Int32))), .unset, .unset, .unset, .unset, .unset, .unset, .unset, .unset, .unset] [])) _
    rw [hk9]
    show Steps p.tables e below (s₁.setTop (mkF m 10 #[.val (.int p1), .val (.int p2), .val (.int p3), .val (.int kk9), .unset, .unset, .unset, .unset, .unset, .unset, .unset, .unset, .unset] [])) _
    refine XS.iloadN X0.here hx rfl (hb hby at_10) rfl ?_
    show Steps p.tables e below (s₁.setTop (mkF m 11 #[.val (.int p1), .val (.int p2), .val (.int p3), .val (.int kk9), .unset, .unset, .unset, .unset, .unset, .unset, .unset, .unset, .unset] [(.int p2)])) _
    refine XS.sipush X0.here hx rfl (hb hby at_11) ?_
    show Steps p.tables e below (s₁.setTop (mkF m 14 #[.val (.int p1), .val (.int p2), .val (.int p3), .val (.int kk9), .unset, .unset, .unset, .unset, .unset, .unset, .unset, .unset, .unset] [(.int (2047 : Int32)), (.int p2)])) _
    refine XS.iand X0.here hx rfl (hb hby at_14) rfl ?_
    show Steps p.tables e below (s₁.setTop (mkF m 15 #[.val (.int p1), .val (.int p2), .val (.int p3), .val (.int kk9), .unset, .unset, .unset, .unset, .unset, .unset, .unset, .unset, .unset] [(.int (p2 &&& (2047 : Int32)))])) _
    refine XS.sipush X0.here hx rfl (hb hby at_15) ?_
    show Steps p.tables e below (s₁.setTop (mkF m 18 #[.val (.int p1), .val (.int p2), .val (.int p3), .val (.int kk9), .unset, .unset, .unset, .unset, .unset, .unset, .unset, .unset, .unset] [(.int (1025 : Int32)), (.int (p2 &&& (2047 : Int32)))])) _
    refine iremM X0 hx rfl (hb hby at_18) rfl (by decide) ?_
    show Steps p.tables e below (s₁.setTop (mkF m 19 #[.val (.int p1), .val (.int p2), .val (.int p3), .val (.int kk9), .unset, .unset, .unset, .unset, .unset, .unset, .unset, .unset, .unset] [(.int ((p2 &&& (2047 : Int32)) % (1025 : Int32)))])) _
    refine XS.istore X0.here hx rfl (hb hby at_19) rfl (l' := #[.val (.int p1), .val (.int p2), .val (.int p3), .val (.int kk9), .val (.int ((p2 &&& (2047 : Int32)) % (1025 : Int32))), .unset, .unset, .unset, .unset, .unset, .unset, .unset, .unset]) rfl ?_
    show Steps p.tables e below (s₁.setTop (mkF m 21 #[.val (.int p1), .val (.int p2), .val (.int p3), .val (.int kk9), .val (.int ((p2 &&& (2047 : Int32)) % (1025 : Int32))), .unset, .unset, .unset, .unset, .unset, .unset, .unset, .unset] [])) _
    rw [hk19]
    show Steps p.tables e below (s₁.setTop (mkF m 21 #[.val (.int p1), .val (.int p2), .val (.int p3), .val (.int kk9), .val (.int kk19), .unset, .unset, .unset, .unset, .unset, .unset, .unset, .unset] [])) _
    refine XS.iloadN X0.here hx rfl (hb hby at_21) rfl ?_
    show Steps p.tables e below (s₁.setTop (mkF m 22 #[.val (.int p1), .val (.int p2), .val (.int p3), .val (.int kk9), .val (.int kk19), .unset, .unset, .unset, .unset, .unset, .unset, .unset, .unset] [(.int p3)])) _
    refine X0.ldcInt hx hown (mvT hZ (hw _ (List.mem_of_getElem? (i := 0) rfl))) (g := (mkF m 22 #[.val (.int p1), .val (.int p2), .val (.int p3), .val (.int kk9), .val (.int kk19), .unset, .unset, .unset, .unset, .unset, .unset, .unset, .unset] [(.int p3)])) rfl (hb hby at_22) _ ?_
    show Steps p.tables e below (s₁.setTop (mkF m 24 #[.val (.int p1), .val (.int p2), .val (.int p3), .val (.int kk9), .val (.int kk19), .unset, .unset, .unset, .unset, .unset, .unset, .unset, .unset] [(.int (2147483647 : Int32)), (.int p3)])) _
    refine XS.iand X0.here hx rfl (hb hby at_24) rfl ?_
    show Steps p.tables e below (s₁.setTop (mkF m 25 #[.val (.int p1), .val (.int p2), .val (.int p3), .val (.int kk9), .val (.int kk19), .unset, .unset, .unset, .unset, .unset, .unset, .unset, .unset] [(.int (p3 &&& (2147483647 : Int32)))])) _
    refine XS.iconst X0.here hx rfl (hb hby at_25) ?_
    show Steps p.tables e below (s₁.setTop (mkF m 26 #[.val (.int p1), .val (.int p2), .val (.int p3), .val (.int kk9), .val (.int kk19), .unset, .unset, .unset, .unset, .unset, .unset, .unset, .unset] [(.int (5 : Int32)), (.int (p3 &&& (2147483647 : Int32)))])) _
    refine iremM X0 hx rfl (hb hby at_26) rfl (by decide) ?_
    show Steps p.tables e below (s₁.setTop (mkF m 27 #[.val (.int p1), .val (.int p2), .val (.int p3), .val (.int kk9), .val (.int kk19), .unset, .unset, .unset, .unset, .unset, .unset, .unset, .unset] [(.int ((p3 &&& (2147483647 : Int32)) % (5 : Int32)))])) _
    refine XS.istore X0.here hx rfl (hb hby at_27) rfl (l' := #[.val (.int p1), .val (.int p2), .val (.int p3), .val (.int kk9), .val (.int kk19), .val (.int ((p3 &&& (2147483647 : Int32)) % (5 : Int32))), .unset, .unset, .unset, .unset, .unset, .unset, .unset]) rfl ?_
    show Steps p.tables e below (s₁.setTop (mkF m 29 #[.val (.int p1), .val (.int p2), .val (.int p3), .val (.int kk9), .val (.int kk19), .val (.int ((p3 &&& (2147483647 : Int32)) % (5 : Int32))), .unset, .unset, .unset, .unset, .unset, .unset, .unset] [])) _
    rw [hk27]
    show Steps p.tables e below (s₁.setTop (mkF m 29 #[.val (.int p1), .val (.int p2), .val (.int p3), .val (.int kk9), .val (.int kk19), .val (.int kk27), .unset, .unset, .unset, .unset, .unset, .unset, .unset] [])) _
    refine XS.iloadN X0.here hx rfl (hb hby at_29) rfl ?_
    show Steps p.tables e below (s₁.setTop (mkF m 30 #[.val (.int p1), .val (.int p2), .val (.int p3), .val (.int kk9), .val (.int kk19), .val (.int kk27), .unset, .unset, .unset, .unset, .unset, .unset, .unset] [(.int kk9)])) _
    refine XS.i2dS X0.here hx rfl (hb hby at_30) rfl rfl ?_
    show Steps p.tables e below (s₁.setTop (mkF m 31 #[.val (.int p1), .val (.int p2), .val (.int p3), .val (.int kk9), .val (.int kk19), .val (.int kk27), .unset, .unset, .unset, .unset, .unset, .unset, .unset] [(.double (FP.i2d kk9))])) _
    refine X0.ldc2DoubleC hx hown (mvT hZ (hw _ (List.mem_of_getElem? (i := 1) rfl))) (g := (mkF m 31 #[.val (.int p1), .val (.int p2), .val (.int p3), .val (.int kk9), .val (.int kk19), .val (.int kk27), .unset, .unset, .unset, .unset, .unset, .unset, .unset] [(.double (FP.i2d kk9))])) rfl (hb hby at_31) _ ?_
    show Steps p.tables e below (s₁.setTop (mkF m 34 #[.val (.int p1), .val (.int p2), .val (.int p3), .val (.int kk9), .val (.int kk19), .val (.int kk27), .unset, .unset, .unset, .unset, .unset, .unset, .unset] [(.double (4652218415073722368 : UInt64)), (.double (FP.i2d kk9))])) _
    refine XS.ddivS X0.here hx rfl (hb hby at_34) rfl hn34 hv34 ?_
    show Steps p.tables e below (s₁.setTop (mkF m 35 #[.val (.int p1), .val (.int p2), .val (.int p3), .val (.int kk9), .val (.int kk19), .val (.int kk27), .unset, .unset, .unset, .unset, .unset, .unset, .unset] [(.double r34)])) _
    refine XS.dstore X0.here hx rfl (hb hby at_35) rfl (l' := #[.val (.int p1), .val (.int p2), .val (.int p3), .val (.int kk9), .val (.int kk19), .val (.int kk27), .val (.double r34), .second, .unset, .unset, .unset, .unset, .unset]) rfl ?_
    show Steps p.tables e below (s₁.setTop (mkF m 37 #[.val (.int p1), .val (.int p2), .val (.int p3), .val (.int kk9), .val (.int kk19), .val (.int kk27), .val (.double r34), .second, .unset, .unset, .unset, .unset, .unset] [])) _
    refine XS.iload X0.here hx rfl (hb hby at_37) rfl ?_
    show Steps p.tables e below (s₁.setTop (mkF m 39 #[.val (.int p1), .val (.int p2), .val (.int p3), .val (.int kk9), .val (.int kk19), .val (.int kk27), .val (.double r34), .second, .unset, .unset, .unset, .unset, .unset] [(.int kk19)])) _
    refine XS.i2dS X0.here hx rfl (hb hby at_39) rfl rfl ?_
    show Steps p.tables e below (s₁.setTop (mkF m 40 #[.val (.int p1), .val (.int p2), .val (.int p3), .val (.int kk9), .val (.int kk19), .val (.int kk27), .val (.double r34), .second, .unset, .unset, .unset, .unset, .unset] [(.double (FP.i2d kk19))])) _
    refine X0.ldc2DoubleC hx hown (mvT hZ (hw _ (List.mem_of_getElem? (i := 1) rfl))) (g := (mkF m 40 #[.val (.int p1), .val (.int p2), .val (.int p3), .val (.int kk9), .val (.int kk19), .val (.int kk27), .val (.double r34), .second, .unset, .unset, .unset, .unset, .unset] [(.double (FP.i2d kk19))])) rfl (hb hby at_40) _ ?_
    show Steps p.tables e below (s₁.setTop (mkF m 43 #[.val (.int p1), .val (.int p2), .val (.int p3), .val (.int kk9), .val (.int kk19), .val (.int kk27), .val (.double r34), .second, .unset, .unset, .unset, .unset, .unset] [(.double (4652218415073722368 : UInt64)), (.double (FP.i2d kk19))])) _
    refine XS.ddivS X0.here hx rfl (hb hby at_43) rfl hn43 hv43 ?_
    show Steps p.tables e below (s₁.setTop (mkF m 44 #[.val (.int p1), .val (.int p2), .val (.int p3), .val (.int kk9), .val (.int kk19), .val (.int kk27), .val (.double r34), .second, .unset, .unset, .unset, .unset, .unset] [(.double r43)])) _
    refine XS.dstore X0.here hx rfl (hb hby at_44) rfl (l' := #[.val (.int p1), .val (.int p2), .val (.int p3), .val (.int kk9), .val (.int kk19), .val (.int kk27), .val (.double r34), .second, .val (.double r43), .second, .unset, .unset, .unset]) rfl ?_
    show Steps p.tables e below (s₁.setTop (mkF m 46 #[.val (.int p1), .val (.int p2), .val (.int p3), .val (.int kk9), .val (.int kk19), .val (.int kk27), .val (.double r34), .second, .val (.double r43), .second, .unset, .unset, .unset] [])) _
    refine XS.dload X0.here hx rfl (hb hby at_46) rfl ?_
    show Steps p.tables e below (s₁.setTop (mkF m 48 #[.val (.int p1), .val (.int p2), .val (.int p3), .val (.int kk9), .val (.int kk19), .val (.int kk27), .val (.double r34), .second, .val (.double r43), .second, .unset, .unset, .unset] [(.double r43)])) _
    refine XS.iload X0.here hx rfl (hb hby at_48) rfl ?_
    show Steps p.tables e below (s₁.setTop (mkF m 50 #[.val (.int p1), .val (.int p2), .val (.int p3), .val (.int kk9), .val (.int kk19), .val (.int kk27), .val (.double r34), .second, .val (.double r43), .second, .unset, .unset, .unset] [(.int kk27), (.double r43)])) _
    refine st4 _ ?_
    show Steps p.tables e below (T4.setTop (mkF m 53 #[.val (.int p1), .val (.int p2), .val (.int p3), .val (.int kk9), .val (.int kk19), .val (.int kk27), .val (.double r34), .second, .val (.double r43), .second, .unset, .unset, .unset] [(.double (F1 kk27)), (.double r43)])) _
    refine XS.daddS X4.here hx rfl (hb hby at_53) rfl hn53 hv53 ?_
    show Steps p.tables e below (T4.setTop (mkF m 54 #[.val (.int p1), .val (.int p2), .val (.int p3), .val (.int kk9), .val (.int kk19), .val (.int kk27), .val (.double r34), .second, .val (.double r43), .second, .unset, .unset, .unset] [(.double r53)])) _
    refine XS.dstore X4.here hx rfl (hb hby at_54) rfl (l' := #[.val (.int p1), .val (.int p2), .val (.int p3), .val (.int kk9), .val (.int kk19), .val (.int kk27), .val (.double r34), .second, .val (.double r43), .second, .val (.double r53), .second, .unset]) rfl ?_
    show Steps p.tables e below (T4.setTop (mkF m 56 #[.val (.int p1), .val (.int p2), .val (.int p3), .val (.int kk9), .val (.int kk19), .val (.int kk27), .val (.double r34), .second, .val (.double r43), .second, .val (.double r53), .second, .unset] [])) _
    refine XS.iload X4.here hx rfl (hb hby at_56) rfl ?_
    show Steps p.tables e below (T4.setTop (mkF m 58 #[.val (.int p1), .val (.int p2), .val (.int p3), .val (.int kk9), .val (.int kk19), .val (.int kk27), .val (.double r34), .second, .val (.double r43), .second, .val (.double r53), .second, .unset] [(.int kk19)])) _
    refine XS.iloadN X4.here hx rfl (hb hby at_58) rfl ?_
    show Steps p.tables e below (T4.setTop (mkF m 59 #[.val (.int p1), .val (.int p2), .val (.int p3), .val (.int kk9), .val (.int kk19), .val (.int kk27), .val (.double r34), .second, .val (.double r43), .second, .val (.double r53), .second, .unset] [(.int kk9), (.int kk19)])) _
    refine XS.icmpNo X4.here hx rfl (hb hby at_59) rfl (feq hc59).1 ?_
    show Steps p.tables e below (T4.setTop (mkF m 62 #[.val (.int p1), .val (.int p2), .val (.int p3), .val (.int kk9), .val (.int kk19), .val (.int kk27), .val (.double r34), .second, .val (.double r43), .second, .val (.double r53), .second, .unset] [])) _
    refine XS.iload X4.here hx rfl (hb hby at_62) rfl ?_
    show Steps p.tables e below (T4.setTop (mkF m 64 #[.val (.int p1), .val (.int p2), .val (.int p3), .val (.int kk9), .val (.int kk19), .val (.int kk27), .val (.double r34), .second, .val (.double r43), .second, .val (.double r53), .second, .unset] [(.int kk19)])) _
    refine XS.iloadN X4.here hx rfl (hb hby at_64) rfl ?_
    show Steps p.tables e below (T4.setTop (mkF m 65 #[.val (.int p1), .val (.int p2), .val (.int p3), .val (.int kk9), .val (.int kk19), .val (.int kk27), .val (.double r34), .second, .val (.double r43), .second, .val (.double r53), .second, .unset] [(.int kk9), (.int kk19)])) _
    refine XS.icmpYes X4.here hx rfl (pc0 := 65) (pc' := 72) rfl (hb hby at_65) rfl (flt hc65).2.2.2 (by decide) (by decide) ?_
    show Steps p.tables e below (T4.setTop (mkF m 72 #[.val (.int p1), .val (.int p2), .val (.int p3), .val (.int kk9), .val (.int kk19), .val (.int kk27), .val (.double r34), .second, .val (.double r43), .second, .val (.double r53), .second, .unset] [])) _
    refine XS.iconst X4.here hx rfl (hb hby at_72) ?_
    show Steps p.tables e below (T4.setTop (mkF m 73 #[.val (.int p1), .val (.int p2), .val (.int p3), .val (.int kk9), .val (.int kk19), .val (.int kk27), .val (.double r34), .second, .val (.double r43), .second, .val (.double r53), .second, .unset] [(.int (0 : Int32))])) _
    refine XS.istore X4.here hx rfl (hb hby at_73) rfl (l' := #[.val (.int p1), .val (.int p2), .val (.int p3), .val (.int kk9), .val (.int kk19), .val (.int kk27), .val (.double r34), .second, .val (.double r43), .second, .val (.double r53), .second, .val (.int (0 : Int32))]) rfl ?_
    show Steps p.tables e below (T4.setTop (mkF m 75 #[.val (.int p1), .val (.int p2), .val (.int p3), .val (.int kk9), .val (.int kk19), .val (.int kk27), .val (.double r34), .second, .val (.double r43), .second, .val (.double r53), .second, .val (.int (0 : Int32))] [])) _
    refine XS.goto X4.here hx rfl (pc0 := 75) (pc' := 91) rfl (hb hby at_75) (by decide) (by decide) ?_
    show Steps p.tables e below (T4.setTop (mkF m 91 #[.val (.int p1), .val (.int p2), .val (.int p3), .val (.int kk9), .val (.int kk19), .val (.int kk27), .val (.double r34), .second, .val (.double r43), .second, .val (.double r53), .second, .val (.int (0 : Int32))] [])) _
    refine XS.dload X4.here hx rfl (hb hby at_91) rfl ?_
    show Steps p.tables e below (T4.setTop (mkF m 93 #[.val (.int p1), .val (.int p2), .val (.int p3), .val (.int kk9), .val (.int kk19), .val (.int kk27), .val (.double r34), .second, .val (.double r43), .second, .val (.double r53), .second, .val (.int (0 : Int32))] [(.double r53)])) _
    refine XS.dload X4.here hx rfl (hb hby at_93) rfl ?_
    show Steps p.tables e below (T4.setTop (mkF m 95 #[.val (.int p1), .val (.int p2), .val (.int p3), .val (.int kk9), .val (.int kk19), .val (.int kk27), .val (.double r34), .second, .val (.double r43), .second, .val (.double r53), .second, .val (.int (0 : Int32))] [(.double r34), (.double r53)])) _
    refine st5 _ ?_
    show Steps p.tables e below (T5.setTop (mkF m 98 #[.val (.int p1), .val (.int p2), .val (.int p3), .val (.int kk9), .val (.int kk19), .val (.int kk27), .val (.double r34), .second, .val (.double r43), .second, .val (.double r53), .second, .val (.int (0 : Int32))] [(.int (F2 r53 r34))])) _
    refine XS.iload X5.here hx rfl (hb hby at_98) rfl ?_
    show Steps p.tables e below (T5.setTop (mkF m 100 #[.val (.int p1), .val (.int p2), .val (.int p3), .val (.int kk9), .val (.int kk19), .val (.int kk27), .val (.double r34), .second, .val (.double r43), .second, .val (.double r53), .second, .val (.int (0 : Int32))] [(.int (0 : Int32)), (.int (F2 r53 r34))])) _
    refine XS.icmpNo X5.here hx rfl (hb hby at_100) rfl (teq hq1).2 ?_
    show Steps p.tables e below (T5.setTop (mkF m 103 #[.val (.int p1), .val (.int p2), .val (.int p3), .val (.int kk9), .val (.int kk19), .val (.int kk27), .val (.double r34), .second, .val (.double r43), .second, .val (.double r53), .second, .val (.int (0 : Int32))] [])) _
    refine XS.iconst X5.here hx rfl (hb hby at_103) ?_
    show Steps p.tables e below (T5.setTop (mkF m 104 #[.val (.int p1), .val (.int p2), .val (.int p3), .val (.int kk9), .val (.int kk19), .val (.int kk27), .val (.double r34), .second, .val (.double r43), .second, .val (.double r53), .second, .val (.int (0 : Int32))] [(.int (1 : Int32))])) _
    refine XS.goto X5.here hx rfl (pc0 := 104) (pc' := 108) rfl (hb hby at_104) (by decide) (by decide) ?_
    show Steps p.tables e below (T5.setTop (mkF m 108 #[.val (.int p1), .val (.int p2), .val (.int p3), .val (.int kk9), .val (.int kk19), .val (.int kk27), .val (.double r34), .second, .val (.double r43), .second, .val (.double r53), .second, .val (.int (0 : Int32))] [(.int (1 : Int32))])) _
    exact retN X5 hx (t := .boolean) Bd.returns (by simp) (hb hby at_108) hr
  · show QL n0 _ T5.heap _
    exact ⟨rfl, N5⟩
set_option maxRecDepth 65536 in
set_option maxHeartbeats 40000000 in
theorem rm0_ttf (l : Launch) (Z : State) (a0 : Array Value) (hw : ∀ d ∈ tables_1, d.before a0 Z = true) (ws : List Jvm.Cond) (p1 : Int32) (p2 : Int32) (p3 : Int32) (kk9 : Int32) (kk19 : Int32) (kk27 : Int32) (r34 : UInt64) (r43 : UInt64) (r53 : UInt64) (h0 : Heap) (n0 : Nat) (Z0 : n0 ≤ h0.size) (hk9 : ((p1 &&& (2047 : Int32)) % (1025 : Int32)) = kk9) (hk19 : ((p2 &&& (2047 : Int32)) % (1025 : Int32)) = kk19) (hk27 : ((p3 &&& (2147483647 : Int32)) % (5 : Int32)) = kk27) (hv34 : (FP.ddiv (FP.i2d kk9) (4652218415073722368 : UInt64)) = r34) (hn34 : Jvm.Free.Fl.NoNaN64 (FP.ddiv (FP.i2d kk9) (4652218415073722368 : UInt64))) (hv43 : (FP.ddiv (FP.i2d kk19) (4652218415073722368 : UInt64)) = r43) (hn43 : Jvm.Free.Fl.NoNaN64 (FP.ddiv (FP.i2d kk19) (4652218415073722368 : UInt64))) (hv53 : (FP.dadd r43 (F1 kk27)) = r53) (hn53 : Jvm.Free.Fl.NoNaN64 (FP.dadd r43 (F1 kk27))) (hc59 : kk19 = kk9) (hc81 : ¬ (kk27 = (2 : Int32))) (hq1 : (F2 r53 r34) = (0 : Int32)) (hnB : Jvm.Free.Fl.NoNaN64 (FP.dadd r34 (4427486594234968593 : UInt64))) :
    MetFree l x (head1 (Jvm.Cond.code x code maxLocals ret :: ws) room_1) (fun a U => a = #[(.int p1), (.int p2), (.int p3)] ∧ Z.Warmed39 U.vm ∧ U.heap = h0) (fun _ _ _ _ _ => True) (fun _ U o U' => ∃ v L, o = .returned v ∧ QL n0 v U'.heap L ∧ FrameEnd U o U' L room_1.cells room_1.slots) := by
  refine MetFree.of_bodySF (plainFor_of_name pn_0) hisR ?_
  intro p e s m args below meth c s₁ Bd hml0 hP hK
  obtain ⟨rfl, hZ, hh⟩ := hP
  have hx := Bd.exec
  have hby := Bd.bytes
  have hml : c.maxLocals = 13 := hml0
  have hown : s.vm.findClass "com/example/loomwork/loomwork/select/UtilityBetterPinLaw" = some m.cls := findClass_of_methodNamed Bd.named
  have hnm := (name_of_methodNamed Bd.named Bd.method).1
  have X0 : Stand p l e room_1 s m #[(.int p1), (.int p2), (.int p3)] below meth c s₁ [] 0 0 := Stand.of_body Bd
  have e0 : s₁.heap = h0 := by rw [← hh, Bd.state]; rfl
  have N0 := Fr.nil n0
  have pre0 : ∀ t, Steps p.tables e below (s₁.setTop (mkF m 0 #[.val (.int p1), .val (.int p2), .val (.int p3), .unset, .unset, .unset, .unset, .unset, .unset, .unset, .unset, .unset, .unset] [])) t → Steps p.tables e below (s₁.setTop (entryFrame m #[(.int p1), (.int p2), (.int p3)] maxLocals)) t := fun t k => castTop (ef_0 m p1 p2 p3) k
  obtain ⟨_, _, ⟨T4, L4, k4, n4⟩, -, X4, ⟨Lc4, hQ4, l4, y4, z4⟩, st4⟩ := Jvm.LawKit.callS X0 hx (y := (⟨"com/example/loomwork/loomwork/select/UtilityBetterPinLaw", "offset", "(I)D"⟩ : MethodName)) hown (mvT hZ (hw _ (List.mem_of_getElem? (i := 2) rfl))) (mvT hZ (hw _ (List.mem_of_getElem? (i := 3) rfl))) (mvT hZ (hw _ (List.mem_of_getElem? (i := 4) rfl))) (mvT hZ (hw _ (List.mem_of_getElem? (i := 5) rfl))) (by decide) (backOf (W := 2) (rm1 l Z a0 hw [] kk27 h0 n0 Z0) hZ (hw _ (List.mem_of_getElem? (i := 5) rfl)) (hw _ (List.mem_of_getElem? (i := 4) rfl)) (by decide) (by decide)) (g := (mkF m 50 #[.val (.int p1), .val (.int p2), .val (.int p3), .val (.int kk9), .val (.int kk19), .val (.int kk27), .val (.double r34), .second, .val (.double r43), .second, .unset, .unset, .unset] [(.int kk27), (.double r43)])) rfl (by rw [hml]; rfl) (argsL := [(.int kk27)]) (rest := [(.double r43)]) (lenOf pd_0_0 rfl) rfl (by show 2 * 0 + _ ≤ _; exact Nat.le_of_eq rfl) (hb hby at_50) (fun _ _ => ⟨rfl, e0, (by decide : 0 + 0 ≤ _), (by decide : 0 + 0 ≤ _)⟩)
  dsimp only [Pt.U, Pt.locs, Pt.cells, Pt.slots] at X4 l4 y4 z4 st4 hQ4
  subst l4 y4 z4
  obtain ⟨rfl, N4q, eh4⟩ := hQ4
  have N4 := Fr.app N0 N4q
  obtain ⟨_, _, ⟨T5, L5, k5, n5⟩, -, X5, ⟨Lc5, hQ5, l5, y5, z5⟩, st5⟩ := Jvm.LawKit.callS X4 hx (y := (⟨"com/example/loomwork/loomwork/select/Utility", "better", "(DD)Z"⟩ : MethodName)) hown (mvT hZ (hw _ (List.mem_of_getElem? (i := 7) rfl))) (mvT hZ (hw _ (List.mem_of_getElem? (i := 8) rfl))) (mvT hZ (hw _ (List.mem_of_getElem? (i := 9) rfl))) (mvT hZ (hw _ (List.mem_of_getElem? (i := 10) rfl))) (by decide) (backOf (W := 0) (rm2 l Z a0 hw [] r53 r34 T4.heap n0 (by rw [eh4]; exact Z0) hnB) hZ (hw _ (List.mem_of_getElem? (i := 10) rfl)) (hw _ (List.mem_of_getElem? (i := 9) rfl)) (by decide) (by decide)) (g := (mkF m 95 #[.val (.int p1), .val (.int p2), .val (.int p3), .val (.int kk9), .val (.int kk19), .val (.int kk27), .val (.double r34), .second, .val (.double r43), .second, .val (.double r53), .second, .val (.int (0 : Int32))] [(.double r34), (.double r53)])) rfl (by rw [hml]; rfl) (argsL := [(.double r53), (.double r34)]) (rest := []) (lenOf pd_0_1 rfl) rfl (by show 2 * 0 + _ ≤ _; exact Nat.le_of_eq rfl) (hb hby at_95) (fun _ _ => ⟨rfl, rfl, (by decide : 0 + 0 ≤ _), (by decide : 0 + 0 ≤ _)⟩)
  dsimp only [Pt.U, Pt.locs, Pt.cells, Pt.slots] at X5 l5 y5 z5 st5 hQ5
  subst l5 y5 z5
  obtain ⟨rfl, N5q, eh5⟩ := hQ5
  have N5 := Fr.app N4 N5q
  obtain ⟨fs, hr, hrun, hended, hW, hsame⟩ := X5.leave (v := some (.int (1 : Int32))) (fun h => by rw [Bd.returns] at h; cases h)
  refine ⟨_, _, pre0 _ ?_, hrun, hended, _, _, rfl, ?_, ⟨_, rfl⟩, hW, hsame.mono (by decide) (by decide)⟩
  · show Steps p.tables e below (s₁.setTop (mkF m 0 #[.val (.int p1), .val (.int p2), .val (.int p3), .unset, .unset, .unset, .unset, .unset, .unset, .unset, .unset, .unset, .unset] [])) _
    refine XS.iloadN X0.here hx rfl (hb hby at_0) rfl ?_
    show Steps p.tables e below (s₁.setTop (mkF m 1 #[.val (.int p1), .val (.int p2), .val (.int p3), .unset, .unset, .unset, .unset, .unset, .unset, .unset, .unset, .unset, .unset] [(.int p1)])) _
    refine XS.sipush X0.here hx rfl (hb hby at_1) ?_
    show Steps p.tables e below (s₁.setTop (mkF m 4 #[.val (.int p1), .val (.int p2), .val (.int p3), .unset, .unset, .unset, .unset, .unset, .unset, .unset, .unset, .unset, .unset] [(.int (2047 : Int32)), (.int p1)])) _
    refine XS.iand X0.here hx rfl (hb hby at_4) rfl ?_
    show Steps p.tables e below (s₁.setTop (mkF m 5 #[.val (.int p1), .val (.int p2), .val (.int p3), .unset, .unset, .unset, .unset, .unset, .unset, .unset, .unset, .unset, .unset] [(.int (p1 &&& (2047 : Int32)))])) _
    refine XS.sipush X0.here hx rfl (hb hby at_5) ?_
    show Steps p.tables e below (s₁.setTop (mkF m 8 #[.val (.int p1), .val (.int p2), .val (.int p3), .unset, .unset, .unset, .unset, .unset, .unset, .unset, .unset, .unset, .unset] [(.int (1025 : Int32)), (.int (p1 &&& (2047 : Int32)))])) _
    refine iremM X0 hx rfl (hb hby at_8) rfl (by decide) ?_
    show Steps p.tables e below (s₁.setTop (mkF m 9 #[.val (.int p1), .val (.int p2), .val (.int p3), .unset, .unset, .unset, .unset, .unset, .unset, .unset, .unset, .unset, .unset] [(.int ((p1 &&& (2047 : Int32)) % (1025 : Int32)))])) _
    refine XS.istoreN X0.here hx rfl (hb hby at_9) rfl (l' := #[.val (.int p1), .val (.int p2), .val (.int p3), .val (.int ((p1 &&& (2047 : Int32)) % (1025 : Int32))), .unset, .unset, .unset, .unset, .unset, .unset, .unset, .unset, .unset]) rfl ?_
    show Steps p.tables e below (s₁.setTop (mkF m 10 #[.val (.int p1), .val (.int p2), .val (.int p3), .val (.int ((p1 &&& (2047 : Int32)) % (1025 : Int32))), .unset, .unset, .unset, .unset, .unset, .unset, .unset, .unset, .unset] [])) _
    rw [hk9]
    show Steps p.tables e below (s₁.setTop (mkF m 10 #[.val (.int p1), .val (.int p2), .val (.int p3), .val (.int kk9), .unset, .unset, .unset, .unset, .unset, .unset, .unset, .unset, .unset] [])) _
    refine XS.iloadN X0.here hx rfl (hb hby at_10) rfl ?_
    show Steps p.tables e below (s₁.setTop (mkF m 11 #[.val (.int p1), .val (.int p2), .val (.int p3), .val (.int kk9), .unset, .unset, .unset, .unset, .unset, .unset, .unset, .unset, .unset] [(.int p2)])) _
    refine XS.sipush X0.here hx rfl (hb hby at_11) ?_
    show Steps p.tables e below (s₁.setTop (mkF m 14 #[.val (.int p1), .val (.int p2), .val (.int p3), .val (.int kk9), .unset, .unset, .unset, .unset, .unset, .unset, .unset, .unset, .unset] [(.int (2047 : Int32)), (.int p2)])) _
    refine XS.iand X0.here hx rfl (hb hby at_14) rfl ?_
    show Steps p.tables e below (s₁.setTop (mkF m 15 #[.val (.int p1), .val (.int p2), .val (.int p3), .val (.int kk9), .unset, .unset, .unset, .unset, .unset, .unset, .unset, .unset, .unset] [(.int (p2 &&& (2047 : Int32)))])) _
    refine XS.sipush X0.here hx rfl (hb hby at_15) ?_
    show Steps p.tables e below (s₁.setTop (mkF m 18 #[.val (.int p1), .val (.int p2), .val (.int p3), .val (.int kk9), .unset, .unset, .unset, .unset, .unset, .unset, .unset, .unset, .unset] [(.int (1025 : Int32)), (.int (p2 &&& (2047 : Int32)))])) _
    refine iremM X0 hx rfl (hb hby at_18) rfl (by decide) ?_
    show Steps p.tables e below (s₁.setTop (mkF m 19 #[.val (.int p1), .val (.int p2), .val (.int p3), .val (.int kk9), .unset, .unset, .unset, .unset, .unset, .unset, .unset, .unset, .unset] [(.int ((p2 &&& (2047 : Int32)) % (1025 : Int32)))])) _
    refine XS.istore X0.here hx rfl (hb hby at_19) rfl (l' := #[.val (.int p1), .val (.int p2), .val (.int p3), .val (.int kk9), .val (.int ((p2 &&& (2047 : Int32)) % (1025 : Int32))), .unset, .unset, .unset, .unset, .unset, .unset, .unset, .unset]) rfl ?_
    show Steps p.tables e below (s₁.setTop (mkF m 21 #[.val (.int p1), .val (.int p2), .val (.int p3), .val (.int kk9), .val (.int ((p2 &&& (2047 : Int32)) % (1025 : Int32))), .unset, .unset, .unset, .unset, .unset, .unset, .unset, .unset] [])) _
    rw [hk19]
    show Steps p.tables e below (s₁.setTop (mkF m 21 #[.val (.int p1), .val (.int p2), .val (.int p3), .val (.int kk9), .val (.int kk19), .unset, .unset, .unset, .unset, .unset, .unset, .unset, .unset] [])) _
    refine XS.iloadN X0.here hx rfl (hb hby at_21) rfl ?_
    show Steps p.tables e below (s₁.setTop (mkF m 22 #[.val (.int p1), .val (.int p2), .val (.int p3), .val (.int kk9), .val (.int kk19), .unset, .unset, .unset, .unset, .unset, .unset, .unset, .unset] [(.int p3)])) _
    refine X0.ldcInt hx hown (mvT hZ (hw _ (List.mem_of_getElem? (i := 0) rfl))) (g := (mkF m 22 #[.val (.int p1), .val (.int p2), .val (.int p3), .val (.int kk9), .val (.int kk19), .unset, .unset, .unset, .unset, .unset, .unset, .unset, .unset] [(.int p3)])) rfl (hb hby at_22) _ ?_
    show Steps p.tables e below (s₁.setTop (mkF m 24 #[.val (.int p1), .val (.int p2), .val (.int p3), .val (.int kk9), .val (.int kk19), .unset, .unset, .unset, .unset, .unset, .unset, .unset, .unset] [(.int (2147483647 : Int32)), (.int p3)])) _
    refine XS.iand X0.here hx rfl (hb hby at_24) rfl ?_
    show Steps p.tables e below (s₁.setTop (mkF m 25 #[.val (.int p1), .val (.int p2), .val (.int p3), .val (.int kk9), .val (.int kk19), .unset, .unset, .unset, .unset, .unset, .unset, .unset, .unset] [(.int (p3 &&& (2147483647 : Int32)))])) _
    refine XS.iconst X0.here hx rfl (hb hby at_25) ?_
    show Steps p.tables e below (s₁.setTop (mkF m 26 #[.val (.int p1), .val (.int p2), .val (.int p3), .val (.int kk9), .val (.int kk19), .unset, .unset, .unset, .unset, .unset, .unset, .unset, .unset] [(.int (5 : Int32)), (.int (p3 &&& (2147483647 : Int32)))])) _
    refine iremM X0 hx rfl (hb hby at_26) rfl (by decide) ?_
    show Steps p.tables e below (s₁.setTop (mkF m 27 #[.val (.int p1), .val (.int p2), .val (.int p3), .val (.int kk9), .val (.int kk19), .unset, .unset, .unset, .unset, .unset, .unset, .unset, .unset] [(.int ((p3 &&& (2147483647 : Int32)) % (5 : Int32)))])) _
    refine XS.istore X0.here hx rfl (hb hby at_27) rfl (l' := #[.val (.int p1), .val (.int p2), .val (.int p3), .val (.int kk9), .val (.int kk19), .val (.int ((p3 &&& (2147483647 : Int32)) % (5 : Int32))), .unset, .unset, .unset, .unset, .unset, .unset, .unset]) rfl ?_
    show Steps p.tables e below (s₁.setTop (mkF m 29 #[.val (.int p1), .val (.int p2), .val (.int p3), .val (.int kk9), .val (.int kk19), .val (.int ((p3 &&& (2147483647 : Int32)) % (5 : Int32))), .unset, .unset, .unset, .unset, .unset, .unset, .unset] [])) _
    rw [hk27]
    show Steps p.tables e below (s₁.setTop (mkF m 29 #[.val (.int p1), .val (.int p2), .val (.int p3), .val (.int kk9), .val (.int kk19), .val (.int kk27), .unset, .unset, .unset, .unset, .unset, .unset, .unset] [])) _
    refine XS.iloadN X0.here hx rfl (hb hby at_29) rfl ?_
    show Steps p.tables e below (s₁.setTop (mkF m 30 #[.val (.int p1), .val (.int p2), .val (.int p3), .val (.int kk9), .val (.int kk19), .val (.int kk27), .unset, .unset, .unset, .unset, .unset, .unset, .unset] [(.int kk9)])) _
    refine XS.i2dS X0.here hx rfl (hb hby at_30) rfl rfl ?_
    show Steps p.tables e below (s₁.setTop (mkF m 31 #[.val (.int p1), .val (.int p2), .val (.int p3), .val (.int kk9), .val (.int kk19), .val (.int kk27), .unset, .unset, .unset, .unset, .unset, .unset, .unset] [(.double (FP.i2d kk9))])) _
    refine X0.ldc2DoubleC hx hown (mvT hZ (hw _ (List.mem_of_getElem? (i := 1) rfl))) (g := (mkF m 31 #[.val (.int p1), .val (.int p2), .val (.int p3), .val (.int kk9), .val (.int kk19), .val (.int kk27), .unset, .unset, .unset, .unset, .unset, .unset, .unset] [(.double (FP.i2d kk9))])) rfl (hb hby at_31) _ ?_
    show Steps p.tables e below (s₁.setTop (mkF m 34 #[.val (.int p1), .val (.int p2), .val (.int p3), .val (.int kk9), .val (.int kk19), .val (.int kk27), .unset, .unset, .unset, .unset, .unset, .unset, .unset] [(.double (4652218415073722368 : UInt64)), (.double (FP.i2d kk9))])) _
    refine XS.ddivS X0.here hx rfl (hb hby at_34) rfl hn34 hv34 ?_
    show Steps p.tables e below (s₁.setTop (mkF m 35 #[.val (.int p1), .val (.int p2), .val (.int p3), .val (.int kk9), .val (.int kk19), .val (.int kk27), .unset, .unset, .unset, .unset, .unset, .unset, .unset] [(.double r34)])) _
    refine XS.dstore X0.here hx rfl (hb hby at_35) rfl (l' := #[.val (.int p1), .val (.int p2), .val (.int p3), .val (.int kk9), .val (.int kk19), .val (.int kk27), .val (.double r34), .second, .unset, .unset, .unset, .unset, .unset]) rfl ?_
    show Steps p.tables e below (s₁.setTop (mkF m 37 #[.val (.int p1), .val (.int p2), .val (.int p3), .val (.int kk9), .val (.int kk19), .val (.int kk27), .val (.double r34), .second, .unset, .unset, .unset, .unset, .unset] [])) _
    refine XS.iload X0.here hx rfl (hb hby at_37) rfl ?_
    show Steps p.tables e below (s₁.setTop (mkF m 39 #[.val (.int p1), .val (.int p2), .val (.int p3), .val (.int kk9), .val (.int kk19), .val (.int kk27), .val (.double r34), .second, .unset, .unset, .unset, .unset, .unset] [(.int kk19)])) _
    refine XS.i2dS X0.here hx rfl (hb hby at_39) rfl rfl ?_
    show Steps p.tables e below (s₁.setTop (mkF m 40 #[.val (.int p1), .val (.int p2), .val (.int p3), .val (.int kk9), .val (.int kk19), .val (.int kk27), .val (.double r34), .second, .unset, .unset, .unset, .unset, .unset] [(.double (FP.i2d kk19))])) _
    refine X0.ldc2DoubleC hx hown (mvT hZ (hw _ (List.mem_of_getElem? (i := 1) rfl))) (g := (mkF m 40 #[.val (.int p1), .val (.int p2), .val (.int p3), .val (.int kk9), .val (.int kk19), .val (.int kk27), .val (.double r34), .second, .unset, .unset, .unset, .unset, .unset] [(.double (FP.i2d kk19))])) rfl (hb hby at_40) _ ?_
    show Steps p.tables e below (s₁.setTop (mkF m 43 #[.val (.int p1), .val (.int p2), .val (.int p3), .val (.int kk9), .val (.int kk19), .val (.int kk27), .val (.double r34), .second, .unset, .unset, .unset, .unset, .unset] [(.double (4652218415073722368 : UInt64)), (.double (FP.i2d kk19))])) _
    refine XS.ddivS X0.here hx rfl (hb hby at_43) rfl hn43 hv43 ?_
    show Steps p.tables e below (s₁.setTop (mkF m 44 #[.val (.int p1), .val (.int p2), .val (.int p3), .val (.int kk9), .val (.int kk19), .val (.int kk27), .val (.double r34), .second, .unset, .unset, .unset, .unset, .unset] [(.double r43)])) _
    refine XS.dstore X0.here hx rfl (hb hby at_44) rfl (l' := #[.val (.int p1), .val (.int p2), .val (.int p3), .val (.int kk9), .val (.int kk19), .val (.int kk27), .val (.double r34), .second, .val (.double r43), .second, .unset, .unset, .unset]) rfl ?_
    show Steps p.tables e below (s₁.setTop (mkF m 46 #[.val (.int p1), .val (.int p2), .val (.int p3), .val (.int kk9), .val (.int kk19), .val (.int kk27), .val (.double r34), .second, .val (.double r43), .second, .unset, .unset, .unset] [])) _
    refine XS.dload X0.here hx rfl (hb hby at_46) rfl ?_
    show Steps p.tables e below (s₁.setTop (mkF m 48 #[.val (.int p1), .val (.int p2), .val (.int p3), .val (.int kk9), .val (.int kk19), .val (.int kk27), .val (.double r34), .second, .val (.double r43), .second, .unset, .unset, .unset] [(.double r43)])) _
    refine XS.iload X0.here hx rfl (hb hby at_48) rfl ?_
    show Steps p.tables e below (s₁.setTop (mkF m 50 #[.val (.int p1), .val (.int p2), .val (.int p3), .val (.int kk9), .val (.int kk19), .val (.int kk27), .val (.double r34), .second, .val (.double r43), .second, .unset, .unset, .unset] [(.int kk27), (.double r43)])) _
    refine st4 _ ?_
    show Steps p.tables e below (T4.setTop (mkF m 53 #[.val (.int p1), .val (.int p2), .val (.int p3), .val (.int kk9), .val (.int kk19), .val (.int kk27), .val (.double r34), .second, .val (.double r43), .second, .unset, .unset, .unset] [(.double (F1 kk27)), (.double r43)])) _
    refine XS.daddS X4.here hx rfl (hb hby at_53) rfl hn53 hv53 ?_
    show Steps p.tables e below (T4.setTop (mkF m 54 #[.val (.int p1), .val (.int p2), .val (.int p3), .val (.int kk9), .val (.int kk19), .val (.int kk27), .val (.double r34), .second, .val (.double r43), .second, .unset, .unset, .unset] [(.double r53)])) _
    refine XS.dstore X4.here hx rfl (hb hby at_54) rfl (l' := #[.val (.int p1), .val (.int p2), .val (.int p3), .val (.int kk9), .val (.int kk19), .val (.int kk27), .val (.double r34), .second, .val (.double r43), .second, .val (.double r53), .second, .unset]) rfl ?_
    show Steps p.tables e below (T4.setTop (mkF m 56 #[.val (.int p1), .val (.int p2), .val (.int p3), .val (.int kk9), .val (.int kk19), .val (.int kk27), .val (.double r34), .second, .val (.double r43), .second, .val (.double r53), .second, .unset] [])) _
    refine XS.iload X4.here hx rfl (hb hby at_56) rfl ?_
    show Steps p.tables e below (T4.setTop (mkF m 58 #[.val (.int p1), .val (.int p2), .val (.int p3), .val (.int kk9), .val (.int kk19), .val (.int kk27), .val (.double r34), .second, .val (.double r43), .second, .val (.double r53), .second, .unset] [(.int kk19)])) _
    refine XS.iloadN X4.here hx rfl (hb hby at_58) rfl ?_
    show Steps p.tables e below (T4.setTop (mkF m 59 #[.val (.int p1), .val (.int p2), .val (.int p3), .val (.int kk9), .val (.int kk19), .val (.int kk27), .val (.double r34), .second, .val (.double r43), .second, .val (.double r53), .second, .unset] [(.int kk9), (.int kk19)])) _
    refine XS.icmpYes X4.here hx rfl (pc0 := 59) (pc' := 78) rfl (hb hby at_59) rfl (teq hc59).1 (by decide) (by decide) ?_
    show Steps p.tables e below (T4.setTop (mkF m 78 #[.val (.int p1), .val (.int p2), .val (.int p3), .val (.int kk9), .val (.int kk19), .val (.int kk27), .val (.double r34), .second, .val (.double r43), .second, .val (.double r53), .second, .unset] [])) _
    refine XS.iload X4.here hx rfl (hb hby at_78) rfl ?_
    show Steps p.tables e below (T4.setTop (mkF m 80 #[.val (.int p1), .val (.int p2), .val (.int p3), .val (.int kk9), .val (.int kk19), .val (.int kk27), .val (.double r34), .second, .val (.double r43), .second, .val (.double r53), .second, .unset] [(.int kk27)])) _
    refine XS.iconst X4.here hx rfl (hb hby at_80) ?_
    show Steps p.tables e below (T4.setTop (mkF m 81 #[.val (.int p1), .val (.int p2), .val (.int p3), .val (.int kk9), .val (.int kk19), .val (.int kk27), .val (.double r34), .second, .val (.double r43), .second, .val (.double r53), .second, .unset] [(.int (2 : Int32)), (.int kk27)])) _
    refine XS.icmpYes X4.here hx rfl (pc0 := 81) (pc' := 88) rfl (hb hby at_81) rfl (feq hc81).2 (by decide) (by decide) ?_
    show Steps p.tables e below (T4.setTop (mkF m 88 #[.val (.int p1), .val (.int p2), .val (.int p3), .val (.int kk9), .val (.int kk19), .val (.int kk27), .val (.double r34), .second, .val (.double r43), .second, .val (.double r53), .second, .unset] [])) _
    refine XS.iconst X4.here hx rfl (hb hby at_88) ?_
    show Steps p.tables e below (T4.setTop (mkF m 89 #[.val (.int p1), .val (.int p2), .val (.int p3), .val (.int kk9), .val (.int kk19), .val (.int kk27), .val (.double r34), .second, .val (.double r43), .second, .val (.double r53), .second, .unset] [(.int (0 : Int32))])) _
    refine XS.istore X4.here hx rfl (hb hby at_89) rfl (l' := #[.val (.int p1), .val (.int p2), .val (.int p3), .val (.int kk9), .val (.int kk19), .val (.int kk27), .val (.double r34), .second, .val (.double r43), .second, .val (.double r53), .second, .val (.int (0 : Int32))]) rfl ?_
    show Steps p.tables e below (T4.setTop (mkF m 91 #[.val (.int p1), .val (.int p2), .val (.int p3), .val (.int kk9), .val (.int kk19), .val (.int kk27), .val (.double r34), .second, .val (.double r43), .second, .val (.double r53), .second, .val (.int (0 : Int32))] [])) _
    refine XS.dload X4.here hx rfl (hb hby at_91) rfl ?_
    show Steps p.tables e below (T4.setTop (mkF m 93 #[.val (.int p1), .val (.int p2), .val (.int p3), .val (.int kk9), .val (.int kk19), .val (.int kk27), .val (.double r34), .second, .val (.double r43), .second, .val (.double r53), .second, .val (.int (0 : Int32))] [(.double r53)])) _
    refine XS.dload X4.here hx rfl (hb hby at_93) rfl ?_
    show Steps p.tables e below (T4.setTop (mkF m 95 #[.val (.int p1), .val (.int p2), .val (.int p3), .val (.int kk9), .val (.int kk19), .val (.int kk27), .val (.double r34), .second, .val (.double r43), .second, .val (.double r53), .second, .val (.int (0 : Int32))] [(.double r34), (.double r53)])) _
    refine st5 _ ?_
    show Steps p.tables e below (T5.setTop (mkF m 98 #[.val (.int p1), .val (.int p2), .val (.int p3), .val (.int kk9), .val (.int kk19), .val (.int kk27), .val (.double r34), .second, .val (.double r43), .second, .val (.double r53), .second, .val (.int (0 : Int32))] [(.int (F2 r53 r34))])) _
    refine XS.iload X5.here hx rfl (hb hby at_98) rfl ?_
    show Steps p.tables e below (T5.setTop (mkF m 100 #[.val (.int p1), .val (.int p2), .val (.int p3), .val (.int kk9), .val (.int kk19), .val (.int kk27), .val (.double r34), .second, .val (.double r43), .second, .val (.double r53), .second, .val (.int (0 : Int32))] [(.int (0 : Int32)), (.int (F2 r53 r34))])) _
    refine XS.icmpNo X5.here hx rfl (hb hby at_100) rfl (teq hq1).2 ?_
    show Steps p.tables e below (T5.setTop (mkF m 103 #[.val (.int p1), .val (.int p2), .val (.int p3), .val (.int kk9), .val (.int kk19), .val (.int kk27), .val (.double r34), .second, .val (.double r43), .second, .val (.double r53), .second, .val (.int (0 : Int32))] [])) _
    refine XS.iconst X5.here hx rfl (hb hby at_103) ?_
    show Steps p.tables e below (T5.setTop (mkF m 104 #[.val (.int p1), .val (.int p2), .val (.int p3), .val (.int kk9), .val (.int kk19), .val (.int kk27), .val (.double r34), .second, .val (.double r43), .second, .val (.double r53), .second, .val (.int (0 : Int32))] [(.int (1 : Int32))])) _
    refine XS.goto X5.here hx rfl (pc0 := 104) (pc' := 108) rfl (hb hby at_104) (by decide) (by decide) ?_
    show Steps p.tables e below (T5.setTop (mkF m 108 #[.val (.int p1), .val (.int p2), .val (.int p3), .val (.int kk9), .val (.int kk19), .val (.int kk27), .val (.double r34), .second, .val (.double r43), .second, .val (.double r53), .second, .val (.int (0 : Int32))] [(.int (1 : Int32))])) _
    exact retN X5 hx (t := .boolean) Bd.returns (by simp) (hb hby at_108) hr
  · show QL n0 _ T5.heap _
    exact ⟨rfl, N5⟩
set_option maxRecDepth 65536 in
set_option maxHeartbeats 40000000 in
theorem rm0_tff (l : Launch) (Z : State) (a0 : Array Value) (hw : ∀ d ∈ tables_1, d.before a0 Z = true) (ws : List Jvm.Cond) (p1 : Int32) (p2 : Int32) (p3 : Int32) (kk9 : Int32) (kk19 : Int32) (kk27 : Int32) (r34 : UInt64) (r43 : UInt64) (r53 : UInt64) (h0 : Heap) (n0 : Nat) (Z0 : n0 ≤ h0.size) (hk9 : ((p1 &&& (2047 : Int32)) % (1025 : Int32)) = kk9) (hk19 : ((p2 &&& (2047 : Int32)) % (1025 : Int32)) = kk19) (hk27 : ((p3 &&& (2147483647 : Int32)) % (5 : Int32)) = kk27) (hv34 : (FP.ddiv (FP.i2d kk9) (4652218415073722368 : UInt64)) = r34) (hn34 : Jvm.Free.Fl.NoNaN64 (FP.ddiv (FP.i2d kk9) (4652218415073722368 : UInt64))) (hv43 : (FP.ddiv (FP.i2d kk19) (4652218415073722368 : UInt64)) = r43) (hn43 : Jvm.Free.Fl.NoNaN64 (FP.ddiv (FP.i2d kk19) (4652218415073722368 : UInt64))) (hv53 : (FP.dadd r43 (F1 kk27)) = r53) (hn53 : Jvm.Free.Fl.NoNaN64 (FP.dadd r43 (F1 kk27))) (hc59 : kk19 = kk9) (hc81 : kk27 = (2 : Int32)) (hq1 : (F2 r53 r34) = (1 : Int32)) (hnB : Jvm.Free.Fl.NoNaN64 (FP.dadd r34 (4427486594234968593 : UInt64))) :
    MetFree l x (head1 (Jvm.Cond.code x code maxLocals ret :: ws) room_1) (fun a U => a = #[(.int p1), (.int p2), (.int p3)] ∧ Z.Warmed39 U.vm ∧ U.heap = h0) (fun _ _ _ _ _ => True) (fun _ U o U' => ∃ v L, o = .returned v ∧ QL n0 v U'.heap L ∧ FrameEnd U o U' L room_1.cells room_1.slots) := by
  refine MetFree.of_bodySF (plainFor_of_name pn_0) hisR ?_
  intro p e s m args below meth c s₁ Bd hml0 hP hK
  obtain ⟨rfl, hZ, hh⟩ := hP
  have hx := Bd.exec
  have hby := Bd.bytes
  have hml : c.maxLocals = 13 := hml0
  have hown : s.vm.findClass "com/example/loomwork/loomwork/select/UtilityBetterPinLaw" = some m.cls := findClass_of_methodNamed Bd.named
  have hnm := (name_of_methodNamed Bd.named Bd.method).1
  have X0 : Stand p l e room_1 s m #[(.int p1), (.int p2), (.int p3)] below meth c s₁ [] 0 0 := Stand.of_body Bd
  have e0 : s₁.heap = h0 := by rw [← hh, Bd.state]; rfl
  have N0 := Fr.nil n0
  have pre0 : ∀ t, Steps p.tables e below (s₁.setTop (mkF m 0 #[.val (.int p1), .val (.int p2), .val (.int p3), .unset, .unset, .unset, .unset, .unset, .unset, .unset, .unset, .unset, .unset] [])) t → Steps p.tables e below (s₁.setTop (entryFrame m #[(.int p1), (.int p2), (.int p3)] maxLocals)) t := fun t k => castTop (ef_0 m p1 p2 p3) k
  obtain ⟨_, _, ⟨T4, L4, k4, n4⟩, -, X4, ⟨Lc4, hQ4, l4, y4, z4⟩, st4⟩ := Jvm.LawKit.callS X0 hx (y := (⟨"com/example/loomwork/loomwork/select/UtilityBetterPinLaw", "offset", "(I)D"⟩ : MethodName)) hown (mvT hZ (hw _ (List.mem_of_getElem? (i := 2) rfl))) (mvT hZ (hw _ (List.mem_of_getElem? (i := 3) rfl))) (mvT hZ (hw _ (List.mem_of_getElem? (i := 4) rfl))) (mvT hZ (hw _ (List.mem_of_getElem? (i := 5) rfl))) (by decide) (backOf (W := 2) (rm1 l Z a0 hw [] kk27 h0 n0 Z0) hZ (hw _ (List.mem_of_getElem? (i := 5) rfl)) (hw _ (List.mem_of_getElem? (i := 4) rfl)) (by decide) (by decide)) (g := (mkF m 50 #[.val (.int p1), .val (.int p2), .val (.int p3), .val (.int kk9), .val (.int kk19), .val (.int kk27), .val (.double r34), .second, .val (.double r43), .second, .unset, .unset, .unset] [(.int kk27), (.double r43)])) rfl (by rw [hml]; rfl) (argsL := [(.int kk27)]) (rest := [(.double r43)]) (lenOf pd_0_0 rfl) rfl (by show 2 * 0 + _ ≤ _; exact Nat.le_of_eq rfl) (hb hby at_50) (fun _ _ => ⟨rfl, e0, (by decide : 0 + 0 ≤ _), (by decide : 0 + 0 ≤ _)⟩)
  dsimp only [Pt.U, Pt.locs, Pt.cells, Pt.slots] at X4 l4 y4 z4 st4 hQ4
  subst l4 y4 z4
  obtain ⟨rfl, N4q, eh4⟩ := hQ4
  have N4 := Fr.app N0 N4q
  obtain ⟨_, _, ⟨T5, L5, k5, n5⟩, -, X5, ⟨Lc5, hQ5, l5, y5, z5⟩, st5⟩ := Jvm.LawKit.callS X4 hx (y := (⟨"com/example/loomwork/loomwork/select/Utility", "better", "(DD)Z"⟩ : MethodName)) hown (mvT hZ (hw _ (List.mem_of_getElem? (i := 7) rfl))) (mvT hZ (hw _ (List.mem_of_getElem? (i := 8) rfl))) (mvT hZ (hw _ (List.mem_of_getElem? (i := 9) rfl))) (mvT hZ (hw _ (List.mem_of_getElem? (i := 10) rfl))) (by decide) (backOf (W := 0) (rm2 l Z a0 hw [] r53 r34 T4.heap n0 (by rw [eh4]; exact Z0) hnB) hZ (hw _ (List.mem_of_getElem? (i := 10) rfl)) (hw _ (List.mem_of_getElem? (i := 9) rfl)) (by decide) (by decide)) (g := (mkF m 95 #[.val (.int p1), .val (.int p2), .val (.int p3), .val (.int kk9), .val (.int kk19), .val (.int kk27), .val (.double r34), .second, .val (.double r43), .second, .val (.double r53), .second, .val (.int (1 : Int32))] [(.double r34), (.double r53)])) rfl (by rw [hml]; rfl) (argsL := [(.double r53), (.double r34)]) (rest := []) (lenOf pd_0_1 rfl) rfl (by show 2 * 0 + _ ≤ _; exact Nat.le_of_eq rfl) (hb hby at_95) (fun _ _ => ⟨rfl, rfl, (by decide : 0 + 0 ≤ _), (by decide : 0 + 0 ≤ _)⟩)
  dsimp only [Pt.U, Pt.locs, Pt.cells, Pt.slots] at X5 l5 y5 z5 st5 hQ5
  subst l5 y5 z5
  obtain ⟨rfl, N5q, eh5⟩ := hQ5
  have N5 := Fr.app N4 N5q
  obtain ⟨fs, hr, hrun, hended, hW, hsame⟩ := X5.leave (v := some (.int (1 : Int32))) (fun h => by rw [Bd.returns] at h; cases h)
  refine ⟨_, _, pre0 _ ?_, hrun, hended, _, _, rfl, ?_, ⟨_, rfl⟩, hW, hsame.mono (by decide) (by decide)⟩
  · show Steps p.tables e below (s₁.setTop (mkF m 0 #[.val (.int p1), .val (.int p2), .val (.int p3), .unset, .unset, .unset, .unset, .unset, .unset, .unset, .unset, .unset, .unset] [])) _
    refine XS.iloadN X0.here hx rfl (hb hby at_0) rfl ?_
    show Steps p.tables e below (s₁.setTop (mkF m 1 #[.val (.int p1), .val (.int p2), .val (.int p3), .unset, .unset, .unset, .unset, .unset, .unset, .unset, .unset, .unset, .unset] [(.int p1)])) _
    refine XS.sipush X0.here hx rfl (hb hby at_1) ?_
    show Steps p.tables e below (s₁.setTop (mkF m 4 #[.val (.int p1), .val (.int p2), .val (.int p3), .unset, .unset, .unset, .unset, .unset, .unset, .unset, .unset, .unset, .unset] [(.int (2047 : Int32)), (.int p1)])) _
    refine XS.iand X0.here hx rfl (hb hby at_4) rfl ?_
    show Steps p.tables e below (s₁.setTop (mkF m 5 #[.val (.int p1), .val (.int p2), .val (.int p3), .unset, .unset, .unset, .unset, .unset, .unset, .unset, .unset, .unset, .unset] [(.int (p1 &&& (2047 : Int32)))])) _
    refine XS.sipush X0.here hx rfl (hb hby at_5) ?_
    show Steps p.tables e below (s₁.setTop (mkF m 8 #[.val (.int p1), .val (.int p2), .val (.int p3), .unset, .unset, .unset, .unset, .unset, .unset, .unset, .unset, .unset, .unset] [(.int (1025 : Int32)), (.int (p1 &&& (2047 : Int32)))])) _
    refine iremM X0 hx rfl (hb hby at_8) rfl (by decide) ?_
    show Steps p.tables e below (s₁.setTop (mkF m 9 #[.val (.int p1), .val (.int p2), .val (.int p3), .unset, .unset, .unset, .unset, .unset, .unset, .unset, .unset, .unset, .unset] [(.int ((p1 &&& (2047 : Int32)) % (1025 : Int32)))])) _
    refine XS.istoreN X0.here hx rfl (hb hby at_9) rfl (l' := #[.val (.int p1), .val (.int p2), .val (.int p3), .val (.int ((p1 &&& (2047 : Int32)) % (1025 : Int32))), .unset, .unset, .unset, .unset, .unset, .unset, .unset, .unset, .unset]) rfl ?_
    show Steps p.tables e below (s₁.setTop (mkF m 10 #[.val (.int p1), .val (.int p2), .val (.int p3), .val (.int ((p1 &&& (2047 : Int32)) % (1025 : Int32))), .unset, .unset, .unset, .unset, .unset, .unset, .unset, .unset, .unset] [])) _
    rw [hk9]
    show Steps p.tables e below (s₁.setTop (mkF m 10 #[.val (.int p1), .val (.int p2), .val (.int p3), .val (.int kk9), .unset, .unset, .unset, .unset, .unset, .unset, .unset, .unset, .unset] [])) _
    refine XS.iloadN X0.here hx rfl (hb hby at_10) rfl ?_
    show Steps p.tables e below (s₁.setTop (mkF m 11 #[.val (.int p1), .val (.int p2), .val (.int p3), .val (.int kk9), .unset, .unset, .unset, .unset, .unset, .unset, .unset, .unset, .unset] [(.int p2)])) _
    refine XS.sipush X0.here hx rfl (hb hby at_11) ?_
    show Steps p.tables e below (s₁.setTop (mkF m 14 #[.val (.int p1), .val (.int p2), .val (.int p3), .val (.int kk9), .unset, .unset, .unset, .unset, .unset, .unset, .unset, .unset, .unset] [(.int (2047 : Int32)), (.int p2)])) _
    refine XS.iand X0.here hx rfl (hb hby at_14) rfl ?_
    show Steps p.tables e below (s₁.setTop (mkF m 15 #[.val (.int p1), .val (.int p2), .val (.int p3), .val (.int kk9), .unset, .unset, .unset, .unset, .unset, .unset, .unset, .unset, .unset] [(.int (p2 &&& (2047 : Int32)))])) _
    refine XS.sipush X0.here hx rfl (hb hby at_15) ?_
    show Steps p.tables e below (s₁.setTop (mkF m 18 #[.val (.int p1), .val (.int p2), .val (.int p3), .val (.int kk9), .unset, .unset, .unset, .unset, .unset, .unset, .unset, .unset, .unset] [(.int (1025 : Int32)), (.int (p2 &&& (2047 : Int32)))])) _
    refine iremM X0 hx rfl (hb hby at_18) rfl (by decide) ?_
    show Steps p.tables e below (s₁.setTop (mkF m 19 #[.val (.int p1), .val (.int p2), .val (.int p3), .val (.int kk9), .unset, .unset, .unset, .unset, .unset, .unset, .unset, .unset, .unset] [(.int ((p2 &&& (2047 : Int32)) % (1025 : Int32)))])) _
    refine XS.istore X0.here hx rfl (hb hby at_19) rfl (l' := #[.val (.int p1), .val (.int p2), .val (.int p3), .val (.int kk9), .val (.int ((p2 &&& (2047 : Int32)) % (1025 : Int32))), .unset, .unset, .unset, .unset, .unset, .unset, .unset, .unset]) rfl ?_
    show Steps p.tables e below (s₁.setTop (mkF m 21 #[.val (.int p1), .val (.int p2), .val (.int p3), .val (.int kk9), .val (.int ((p2 &&& (2047 : Int32)) % (1025 : Int32))), .unset, .unset, .unset, .unset, .unset, .unset, .unset, .unset] [])) _
    rw [hk19]
    show Steps p.tables e below (s₁.setTop (mkF m 21 #[.val (.int p1), .val (.int p2), .val (.int p3), .val (.int kk9), .val (.int kk19), .unset, .unset, .unset, .unset, .unset, .unset, .unset, .unset] [])) _
    refine XS.iloadN X0.here hx rfl (hb hby at_21) rfl ?_
    show Steps p.tables e below (s₁.setTop (mkF m 22 #[.val (.int p1), .val (.int p2), .val (.int p3), .val (.int kk9), .val (.int kk19), .unset, .unset, .unset, .unset, .unset, .unset, .unset, .unset] [(.int p3)])) _
    refine X0.ldcInt hx hown (mvT hZ (hw _ (List.mem_of_getElem? (i := 0) rfl))) (g := (mkF m 22 #[.val (.int p1), .val (.int p2), .val (.int p3), .val (.int kk9), .val (.int kk19), .unset, .unset, .unset, .unset, .unset, .unset, .unset, .unset] [(.int p3)])) rfl (hb hby at_22) _ ?_
    show Steps p.tables e below (s₁.setTop (mkF m 24 #[.val (.int p1), .val (.int p2), .val (.int p3), .val (.int kk9), .val (.int kk19), .unset, .unset, .unset, .unset, .unset, .unset, .unset, .unset] [(.int (2147483647 : Int32)), (.int p3)])) _
    refine XS.iand X0.here hx rfl (hb hby at_24) rfl ?_
    show Steps p.tables e below (s₁.setTop (mkF m 25 #[.val (.int p1), .val (.int p2), .val (.int p3), .val (.int kk9), .val (.int kk19), .unset, .unset, .unset, .unset, .unset, .unset, .unset, .unset] [(.int (p3 &&& (2147483647 : Int32)))])) _
    refine XS.iconst X0.here hx rfl (hb hby at_25) ?_
    show Steps p.tables e below (s₁.setTop (mkF m 26 #[.val (.int p1), .val (.int p2), .val (.int p3), .val (.int kk9), .val (.int kk19), .unset, .unset, .unset, .unset, .unset, .unset, .unset, .unset] [(.int (5 : Int32)), (.int (p3 &&& (2147483647 : Int32)))])) _
    refine iremM X0 hx rfl (hb hby at_26) rfl (by decide) ?_
    show Steps p.tables e below (s₁.setTop (mkF m 27 #[.val (.int p1), .val (.int p2), .val (.int p3), .val (.int kk9), .val (.int kk19), .unset, .unset, .unset, .unset, .unset, .unset, .unset, .unset] [(.int ((p3 &&& (2147483647 : Int32)) % (5 : Int32)))])) _
    refine XS.istore X0.here hx rfl (hb hby at_27) rfl (l' := #[.val (.int p1), .val (.int p2), .val (.int p3), .val (.int kk9), .val (.int kk19), .val (.int ((p3 &&& (2147483647 : Int32)) % (5 : Int32))), .unset, .unset, .unset, .unset, .unset, .unset, .unset]) rfl ?_
    show Steps p.tables e below (s₁.setTop (mkF m 29 #[.val (.int p1), .val (.int p2), .val (.int p3), .val (.int kk9), .val (.int kk19), .val (.int ((p3 &&& (2147483647 : Int32)) % (5 : Int32))), .unset, .unset, .unset, .unset, .unset, .unset, .unset] [])) _
    rw [hk27]
    show Steps p.tables e below (s₁.setTop (mkF m 29 #[.val (.int p1), .val (.int p2), .val (.int p3), .val (.int kk9), .val (.int kk19), .val (.int kk27), .unset, .unset, .unset, .unset, .unset, .unset, .unset] [])) _
    refine XS.iloadN X0.here hx rfl (hb hby at_29) rfl ?_
    show Steps p.tables e below (s₁.setTop (mkF m 30 #[.val (.int p1), .val (.int p2), .val (.int p3), .val (.int kk9), .val (.int kk19), .val (.int kk27), .unset, .unset, .unset, .unset, .unset, .unset, .unset] [(.int kk9)])) _
    refine XS.i2dS X0.here hx rfl (hb hby at_30) rfl rfl ?_
    show Steps p.tables e below (s₁.setTop (mkF m 31 #[.val (.int p1), .val (.int p2), .val (.int p3), .val (.int kk9), .val (.int kk19), .val (.int kk27), .unset, .unset, .unset, .unset, .unset, .unset, .unset] [(.double (FP.i2d kk9))])) _
    refine X0.ldc2DoubleC hx hown (mvT hZ (hw _ (List.mem_of_getElem? (i := 1) rfl))) (g := (mkF m 31 #[.val (.int p1), .val (.int p2), .val (.int p3), .val (.int kk9), .val (.int kk19), .val (.int kk27), .unset, .unset, .unset, .unset, .unset, .unset, .unset] [(.double (FP.i2d kk9))])) rfl (hb hby at_31) _ ?_
    show Steps p.tables e below (s₁.setTop (mkF m 34 #[.val (.int p1), .val (.int p2), .val (.int p3), .val (.int kk9), .val (.int kk19), .val (.int kk27), .unset, .unset, .unset, .unset, .unset, .unset, .unset] [(.double (4652218415073722368 : UInt64)), (.double (FP.i2d kk9))])) _
    refine XS.ddivS X0.here hx rfl (hb hby at_34) rfl hn34 hv34 ?_
    show Steps p.tables e below (s₁.setTop (mkF m 35 #[.val (.int p1), .val (.int p2), .val (.int p3), .val (.int kk9), .val (.int kk19), .val (.int kk27), .unset, .unset, .unset, .unset, .unset, .unset, .unset] [(.double r34)])) _
    refine XS.dstore X0.here hx rfl (hb hby at_35) rfl (l' := #[.val (.int p1), .val (.int p2), .val (.int p3), .val (.int kk9), .val (.int kk19), .val (.int kk27), .val (.double r34), .second, .unset, .unset, .unset, .unset, .unset]) rfl ?_
    show Steps p.tables e below (s₁.setTop (mkF m 37 #[.val (.int p1), .val (.int p2), .val (.int p3), .val (.int kk9), .val (.int kk19), .val (.int kk27), .val (.double r34), .second, .unset, .unset, .unset, .unset, .unset] [])) _
    refine XS.iload X0.here hx rfl (hb hby at_37) rfl ?_
    show Steps p.tables e below (s₁.setTop (mkF m 39 #[.val (.int p1), .val (.int p2), .val (.int p3), .val (.int kk9), .val (.int kk19), .val (.int kk27), .val (.double r34), .second, .unset, .unset, .unset, .unset, .unset] [(.int kk19)])) _
    refine XS.i2dS X0.here hx rfl (hb hby at_39) rfl rfl ?_
    show Steps p.tables e below (s₁.setTop (mkF m 40 #[.val (.int p1), .val (.int p2), .val (.int p3), .val (.int kk9), .val (.int kk19), .val (.int kk27), .val (.double r34), .second, .unset, .unset, .unset, .unset, .unset] [(.double (FP.i2d kk19))])) _
    refine X0.ldc2DoubleC hx hown (mvT hZ (hw _ (List.mem_of_getElem? (i := 1) rfl))) (g := (mkF m 40 #[.val (.int p1), .val (.int p2), .val (.int p3), .val (.int kk9), .val (.int kk19), .val (.int kk27), .val (.double r34), .second, .unset, .unset, .unset, .unset, .unset] [(.double (FP.i2d kk19))])) rfl (hb hby at_40) _ ?_
    show Steps p.tables e below (s₁.setTop (mkF m 43 #[.val (.int p1), .val (.int p2), .val (.int p3), .val (.int kk9), .val (.int kk19), .val (.int kk27), .val (.double r34), .second, .unset, .unset, .unset, .unset, .unset] [(.double (4652218415073722368 : UInt64)), (.double (FP.i2d kk19))])) _
    refine XS.ddivS X0.here hx rfl (hb hby at_43) rfl hn43 hv43 ?_
    show Steps p.tables e below (s₁.setTop (mkF m 44 #[.val (.int p1), .val (.int p2), .val (.int p3), .val (.int kk9), .val (.int kk19), .val (.int kk27), .val (.double r34), .second, .unset, .unset, .unset, .unset, .unset] [(.double r43)])) _
    refine XS.dstore X0.here hx rfl (hb hby at_44) rfl (l' := #[.val (.int p1), .val (.int p2), .val (.int p3), .val (.int kk9), .val (.int kk19), .val (.int kk27), .val (.double r34), .second, .val (.double r43), .second, .unset, .unset, .unset]) rfl ?_
    show Steps p.tables e below (s₁.setTop (mkF m 46 #[.val (.int p1), .val (.int p2), .val (.int p3), .val (.int kk9), .val (.int kk19), .val (.int kk27), .val (.double r34), .second, .val (.double r43), .second, .unset, .unset, .unset] [])) _
    refine XS.dload X0.here hx rfl (hb hby at_46) rfl ?_
    show Steps p.tables e below (s₁.setTop (mkF m 48 #[.val (.int p1), .val (.int p2), .val (.int p3), .val (.int kk9), .val (.int kk19), .val (.int kk27), .val (.double r34), .second, .val (.double r43), .second, .unset, .unset, .unset] [(.double r43)])) _
    refine XS.iload X0.here hx rfl (hb hby at_48) rfl ?_
    show Steps p.tables e below (s₁.setTop (mkF m 50 #[.val (.int p1), .val (.int p2), .val (.int p3), .val (.int kk9), .val (.int kk19), .val (.int kk27), .val (.double r34), .second, .val (.double r43), .second, .unset, .unset, .unset] [(.int kk27), (.double r43)])) _
    refine st4 _ ?_
    show Steps p.tables e below (T4.setTop (mkF m 53 #[.val (.int p1), .val (.int p2), .val (.int p3), .val (.int kk9), .val (.int kk19), .val (.int kk27), .val (.double r34), .second, .val (.double r43), .second, .unset, .unset, .unset] [(.double (F1 kk27)), (.double r43)])) _
    refine XS.daddS X4.here hx rfl (hb hby at_53) rfl hn53 hv53 ?_
    show Steps p.tables e below (T4.setTop (mkF m 54 #[.val (.int p1), .val (.int p2), .val (.int p3), .val (.int kk9), .val (.int kk19), .val (.int kk27), .val (.double r34), .second, .val (.double r43), .second, .unset, .unset, .unset] [(.double r53)])) _
    refine XS.dstore X4.here hx rfl (hb hby at_54) rfl (l' := #[.val (.int p1), .val (.int p2), .val (.int p3), .val (.int kk9), .val (.int kk19), .val (.int kk27), .val (.double r34), .second, .val (.double r43), .second, .val (.double r53), .second, .unset]) rfl ?_
    show Steps p.tables e below (T4.setTop (mkF m 56 #[.val (.int p1), .val (.int p2), .val (.int p3), .val (.int kk9), .val (.int kk19), .val (.int kk27), .val (.double r34), .second, .val (.double r43), .second, .val (.double r53), .second, .unset] [])) _
    refine XS.iload X4.here hx rfl (hb hby at_56) rfl ?_
    show Steps p.tables e below (T4.setTop (mkF m 58 #[.val (.int p1), .val (.int p2), .val (.int p3), .val (.int kk9), .val (.int kk19), .val (.int kk27), .val (.double r34), .second, .val (.double r43), .second, .val (.double r53), .second, .unset] [(.int kk19)])) _
    refine XS.iloadN X4.here hx rfl (hb hby at_58) rfl ?_
    show Steps p.tables e below (T4.setTop (mkF m 59 #[.val (.int p1), .val (.int p2), .val (.int p3), .val (.int kk9), .val (.int kk19), .val (.int kk27), .val (.double r34), .second, .val (.double r43), .second, .val (.double r53), .second, .unset] [(.int kk9), (.int kk19)])) _
    refine XS.icmpYes X4.here hx rfl (pc0 := 59) (pc' := 78) rfl (hb hby at_59) rfl (teq hc59).1 (by decide) (by decide) ?_
    show Steps p.tables e below (T4.setTop (mkF m 78 #[.val (.int p1), .val (.int p2), .val (.int p3), .val (.int kk9), .val (.int kk19), .val (.int kk27), .val (.double r34), .second, .val (.double r43), .second, .val (.double r53), .second, .unset] [])) _
    refine XS.iload X4.here hx rfl (hb hby at_78) rfl ?_
    show Steps p.tables e below (T4.setTop (mkF m 80 #[.val (.int p1), .val (.int p2), .val (.int p3), .val (.int kk9), .val (.int kk19), .val (.int kk27), .val (.double r34), .second, .val (.double r43), .second, .val (.double r53), .second, .unset] [(.int kk27)])) _
    refine XS.iconst X4.here hx rfl (hb hby at_80) ?_
    show Steps p.tables e below (T4.setTop (mkF m 81 #[.val (.int p1), .val (.int p2), .val (.int p3), .val (.int kk9), .val (.int kk19), .val (.int kk27), .val (.double r34), .second, .val (.double r43), .second, .val (.double r53), .second, .unset] [(.int (2 : Int32)), (.int kk27)])) _
    refine XS.icmpNo X4.here hx rfl (hb hby at_81) rfl (teq hc81).2 ?_
    show Steps p.tables e below (T4.setTop (mkF m 84 #[.val (.int p1), .val (.int p2), .val (.int p3), .val (.int kk9), .val (.int kk19), .val (.int kk27), .val (.double r34), .second, .val (.double r43), .second, .val (.double r53), .second, .unset] [])) _
    refine XS.iconst X4.here hx rfl (hb hby at_84) ?_
    show Steps p.tables e below (T4.setTop (mkF m 85 #[.val (.int p1), .val (.int p2), .val (.int p3), .val (.int kk9), .val (.int kk19), .val (.int kk27), .val (.double r34), .second, .val (.double r43), .second, .val (.double r53), .second, .unset] [(.int (1 : Int32))])) _
    refine XS.goto X4.here hx rfl (pc0 := 85) (pc' := 89) rfl (hb hby at_85) (by decide) (by decide) ?_
    show Steps p.tables e below (T4.setTop (mkF m 89 #[.val (.int p1), .val (.int p2), .val (.int p3), .val (.int kk9), .val (.int kk19), .val (.int kk27), .val (.double r34), .second, .val (.double r43), .second, .val (.double r53), .second, .unset] [(.int (1 : Int32))])) _
    refine XS.istore X4.here hx rfl (hb hby at_89) rfl (l' := #[.val (.int p1), .val (.int p2), .val (.int p3), .val (.int kk9), .val (.int kk19), .val (.int kk27), .val (.double r34), .second, .val (.double r43), .second, .val (.double r53), .second, .val (.int (1 : Int32))]) rfl ?_
    show Steps p.tables e below (T4.setTop (mkF m 91 #[.val (.int p1), .val (.int p2), .val (.int p3), .val (.int kk9), .val (.int kk19), .val (.int kk27), .val (.double r34), .second, .val (.double r43), .second, .val (.double r53), .second, .val (.int (1 : Int32))] [])) _
    refine XS.dload X4.here hx rfl (hb hby at_91) rfl ?_
    show Steps p.tables e below (T4.setTop (mkF m 93 #[.val (.int p1), .val (.int p2), .val (.int p3), .val (.int kk9), .val (.int kk19), .val (.int kk27), .val (.double r34), .second, .val (.double r43), .second, .val (.double r53), .second, .val (.int (1 : Int32))] [(.double r53)])) _
    refine XS.dload X4.here hx rfl (hb hby at_93) rfl ?_
    show Steps p.tables e below (T4.setTop (mkF m 95 #[.val (.int p1), .val (.int p2), .val (.int p3), .val (.int kk9), .val (.int kk19), .val (.int kk27), .val (.double r34), .second, .val (.double r43), .second, .val (.double r53), .second, .val (.int (1 : Int32))] [(.double r34), (.double r53)])) _
    refine st5 _ ?_
    show Steps p.tables e below (T5.setTop (mkF m 98 #[.val (.int p1), .val (.int p2), .val (.int p3), .val (.int kk9), .val (.int kk19), .val (.int kk27), .val (.double r34), .second, .val (.double r43), .second, .val (.double r53), .second, .val (.int (1 : Int32))] [(.int (F2 r53 r34))])) _
    refine XS.iload X5.here hx rfl (hb hby at_98) rfl ?_
    show Steps p.tables e below (T5.setTop (mkF m 100 #[.val (.int p1), .val (.int p2), .val (.int p3), .val (.int kk9), .val (.int kk19), .val (.int kk27), .val (.double r34), .second, .val (.double r43), .second, .val (.double r53), .second, .val (.int (1 : Int32))] [(.int (1 : Int32)), (.int (F2 r53 r34))])) _
    refine XS.icmpNo X5.here hx rfl (hb hby at_100) rfl (teq hq1).2 ?_
    show Steps p.tables e below (T5.setTop (mkF m 103 #[.val (.int p1), .val (.int p2), .val (.int p3), .val (.int kk9), .val (.int kk19), .val (.int kk27), .val (.double r34), .second, .val (.double r43), .second, .val (.double r53), .second, .val (.int (1 : Int32))] [])) _
    refine XS.iconst X5.here hx rfl (hb hby at_103) ?_
    show Steps p.tables e below (T5.setTop (mkF m 104 #[.val (.int p1), .val (.int p2), .val (.int p3), .val (.int kk9), .val (.int kk19), .val (.int kk27), .val (.double r34), .second, .val (.double r43), .second, .val (.double r53), .second, .val (.int (1 : Int32))] [(.int (1 : Int32))])) _
    refine XS.goto X5.here hx rfl (pc0 := 104) (pc' := 108) rfl (hb hby at_104) (by decide) (by decide) ?_
    show Steps p.tables e below (T5.setTop (mkF m 108 #[.val (.int p1), .val (.int p2), .val (.int p3), .val (.int kk9), .val (.int kk19), .val (.int kk27), .val (.double r34), .second, .val (.double r43), .second, .val (.double r53), .second, .val (.int (1 : Int32))] [(.int (1 : Int32))])) _
    exact retN X5 hx (t := .boolean) Bd.returns (by simp) (hb hby at_108) hr
  · show QL n0 _ T5.heap _
    exact ⟨rfl, N5⟩
theorem own_k : Dy 1024 0 (4652218415073722368 : UInt64) := by
  have h : FP.l2d 1024 = (4652218415073722368 : UInt64) := by decide +kernel
  have q := Dy.l2d (i := 1024) (by decide)
  rw [h] at q; exact q
theorem own_frac {p : Int32} (h1 : 0 ≤ p.toInt) (h2 : p.toInt ≤ 1024) : Dy (p.toInt * 1073741824) 40 (FP.ddiv (FP.i2d p) (4652218415073722368 : UInt64)) :=
  (Dy.i2d p).div own_k (by decide) (by decide) (by decide) (by decide) (by rw [show ((2 ^ 0 : Nat) : Int) = 1 from rfl, show ((2 ^ 40 : Nat) : Int) = 1099511627776 from rfl]; omega) (by omega)
theorem own_c1 : Dy 1 40 (4427038433705197568 : UInt64) := ⟨⟨false, 4503599627370496, -92, by decide +kernel⟩, by decide +kernel⟩
theorem own_c2 : Dy 2 40 (4431542033332568064 : UInt64) := ⟨⟨false, 4503599627370496, -91, by decide +kernel⟩, by decide +kernel⟩
theorem own_c3 : Dy (-1) 40 (13650410470559973376 : UInt64) := ⟨⟨true, 4503599627370496, -92, by decide +kernel⟩, by decide +kernel⟩
theorem own_c4 : Dy (-2) 40 (13654914070187343872 : UInt64) := ⟨⟨true, 4503599627370496, -91, by decide +kernel⟩, by decide +kernel⟩
theorem own_eqfin : Jvm.FP.Core.DFin (4427486594234968593 : UInt64) := ⟨false, 4951760157141521, -92, by decide +kernel⟩
theorem own_eqlo : 1 * ((2 ^ (1074 - 40) : Nat) : Int) ≤ own_z (4427486594234968593 : UInt64) := by decide +kernel
theorem own_eqhi : own_z (4427486594234968593 : UInt64) ≤ 3 * ((2 ^ (1074 - 41) : Nat) : Int) := by decide +kernel
def own_o (p : Int32) : Int := if p = 1 then 1 else if p = 2 then 2 else if p = 3 then -1 else if p = 4 then -2 else 0
theorem own_F1 (p : Int32) : Dy (own_o p) 40 (F1 p) := by
  unfold own_o F1
  by_cases h1 : p = (1 : Int32)
  · rw [if_pos h1, if_pos h1]; exact own_c1
  · rw [if_neg h1, if_neg h1]
    by_cases h2 : p = (2 : Int32)
    · rw [if_pos h2, if_pos h2]; exact own_c2
    · rw [if_neg h2, if_neg h2]
      by_cases h3 : p = (3 : Int32)
      · rw [if_pos h3, if_pos h3]; exact own_c3
      · rw [if_neg h3, if_neg h3]
        by_cases h4 : p = (4 : Int32)
        · rw [if_pos h4, if_pos h4]; exact own_c4
        · rw [if_neg h4, if_neg h4]; exact Dy.zero 40
theorem own_o_b (p : Int32) : -2 ≤ own_o p ∧ own_o p ≤ 2 ∧ (own_o p = 2 ↔ p = 2) := by
  unfold own_o
  by_cases h1 : p = (1 : Int32)
  · subst h1; decide
  · rw [if_neg h1]
    by_cases h2 : p = (2 : Int32)
    · subst h2; decide
    · rw [if_neg h2]
      by_cases h3 : p = (3 : Int32)
      · rw [if_pos h3]; exact ⟨by decide, by decide, fun q => absurd q (by decide), fun q => absurd q h2⟩
      · rw [if_neg h3]
        by_cases h4 : p = (4 : Int32)
        · rw [if_pos h4]; exact ⟨by decide, by decide, fun q => absurd q (by decide), fun q => absurd q h2⟩
        · rw [if_neg h4]; exact ⟨by decide, by decide, fun q => absurd q (by decide), fun q => absurd q h2⟩
theorem own_pow40 : ((2 ^ (1074 - 40) : Nat) : Int) = 2 * ((2 ^ (1074 - 41) : Nat) : Int) := by decide +kernel
theorem own_better {t u : UInt64} {a o b : Int} (a1 : 0 ≤ a) (a2 : a ≤ 1024) (ht : Dy (a * 1073741824) 40 t) (hu : Dy (b * 1073741824 + o) 40 u) (o1 : -2 ≤ o) (o2 : o ≤ 2) :
    Jvm.Free.Fl.NoNaN64 (FP.dadd t (4427486594234968593 : UInt64)) ∧ F2 u t = if a < b ∨ (a = b ∧ o = 2) then 1 else 0 := by
  have nn := own_add_nn ht.fin own_eqfin
  refine ⟨own_nn' nn, ?_⟩
  have lo := own_add_ge ht.fin own_eqfin (N := a * 1073741824 + 1) (j := 1074 - 40) (by omega) (by decide) (by have := own_eqlo; rw [ht.2, Int.add_mul]; omega)
  have hi := own_add_le ht.fin own_eqfin (N := a * 2147483648 + 3) (j := 1074 - 41) (by omega) (by decide) (by have := own_eqhi; rw [ht.2, own_pow40, Int.add_mul]; omega)
  have e := own_gt0 hu.fin.ne_nan nn .l
  unfold F2
  simp only [e, hu.2]
  have P := own_pow_pos (1074 - 41)
  rw [own_pow40] at lo ⊢
  generalize ((2 ^ (1074 - 41) : Nat) : Int) = C at *
  generalize own_z (FP.dadd t (4427486594234968593 : UInt64)) = R at *
  have M : ∀ x y : Int, x ≤ y → x * C ≤ y * C := fun x y h => Int.mul_le_mul_of_nonneg_right h (Int.le_of_lt P)
  have M' : ∀ x y : Int, x < y → x * C < y * C := fun x y h => Int.mul_lt_mul_of_pos_right h P
  have r1 : (b * 1073741824 + o) * (2 * C) = (b * 2147483648 + 2 * o) * C := by rw [← Int.mul_assoc]; congr 1; omega
  have r2 : (a * 1073741824 + 1) * (2 * C) = (a * 2147483648 + 2) * C := by rw [← Int.mul_assoc]; congr 1; omega
  rw [r1]
  rw [r2] at lo
  by_cases h : a < b ∨ (a = b ∧ o = 2)
  · rw [if_pos h, if_pos]
    exact Int.lt_of_le_of_lt hi (M' _ _ (by omega))
  · rw [if_neg h, if_neg]
    have := M (b * 2147483648 + 2 * o) (a * 2147483648 + 2) (by omega)
    omega
theorem own_rem (p : Int32) : 0 ≤ ((p &&& (2047 : Int32)) % (1025 : Int32)).toInt ∧ ((p &&& (2047 : Int32)) % (1025 : Int32)).toInt ≤ 1024 := by
  have h1 := c_and p (2047 : Int32) (by decide)
  have h2 := (c_irem (p &&& (2047 : Int32)) (1025 : Int32) 1025 rfl).1 h1.1
  omega
theorem rm0 (l : Launch) (Z : State) (a0 : Array Value) (hw : ∀ d ∈ tables_1, d.before a0 Z = true) (ws : List Jvm.Cond) (p1 : Int32) (p2 : Int32) (p3 : Int32) (h0 : Heap) (n0 : Nat) (Z0 : n0 ≤ h0.size) :
    MetFree l x (head1 (Jvm.Cond.code x code maxLocals ret :: ws) room_1) (fun a U => a = #[(.int p1), (.int p2), (.int p3)] ∧ Z.Warmed39 U.vm ∧ U.heap = h0) (fun _ _ _ _ _ => True) (fun _ U o U' => ∃ v L, o = .returned v ∧ QL n0 v U'.heap L ∧ FrameEnd U o U' L room_1.cells room_1.slots) := by
  obtain ⟨a1, a2⟩ := own_rem p1
  obtain ⟨b1, b2⟩ := own_rem p2
  generalize hk9 : ((p1 &&& (2047 : Int32)) % (1025 : Int32)) = kk9 at *
  generalize hk19 : ((p2 &&& (2047 : Int32)) % (1025 : Int32)) = kk19 at *
  generalize hk27 : ((p3 &&& (2147483647 : Int32)) % (5 : Int32)) = kk27 at *
  have A := own_frac a1 a2
  have B := own_frac b1 b2
  obtain ⟨o1, o2, o3⟩ := own_o_b kk27
  have U := B.add (own_F1 kk27) (by omega)
  obtain ⟨nB, e⟩ := own_better a1 a2 A U o1 o2
  have ie : kk19 = kk9 ↔ kk9.toInt = kk19.toInt := ⟨fun q => by rw [q], fun q => Int32.toInt_inj.mp q.symm⟩
  by_cases h59 : kk19 = kk9
  · by_cases h81 : kk27 = (2 : Int32)
    · exact rm0_tff l Z a0 hw ws p1 p2 p3 kk9 kk19 kk27 _ _ _ h0 n0 Z0 hk9 hk19 hk27 rfl A.nn rfl B.nn rfl U.nn h59 h81 (e.trans (if_pos (Or.inr ⟨ie.mp h59, o3.mpr h81⟩))) nB
    · exact rm0_ttf l Z a0 hw ws p1 p2 p3 kk9 kk19 kk27 _ _ _ h0 n0 Z0 hk9 hk19 hk27 rfl A.nn rfl B.nn rfl U.nn h59 h81 (e.trans (if_neg (fun q => q.elim (fun q => by have := ie.mp h59; omega) (fun q => h81 (o3.mp q.2))))) nB
  · have ne : kk9.toInt ≠ kk19.toInt := fun q => h59 (ie.mpr q)
    by_cases h65 : kk9 < kk19
    · exact rm0_fff l Z a0 hw ws p1 p2 p3 kk9 kk19 kk27 _ _ _ h0 n0 Z0 hk9 hk19 hk27 rfl A.nn rfl B.nn rfl U.nn h59 h65 (e.trans (if_pos (Or.inl (Int32.lt_iff_toInt_lt.mp h65)))) nB
    · exact rm0_ftf l Z a0 hw ws p1 p2 p3 kk9 kk19 kk27 _ _ _ h0 n0 Z0 hk9 hk19 hk27 rfl A.nn rfl B.nn rfl U.nn h59 h65 (e.trans (if_neg (fun q => q.elim (fun q => h65 (Int32.lt_iff_toInt_lt.mpr q)) (fun q => ne q.1)))) nB
set_option maxRecDepth 65536 in
set_option maxHeartbeats 40000000 in
theorem comes_1 {Post : Tables → Env → Array Value → State → Outcome → State → Prop} (hpost : ∀ tb e args s v u, (limb_1_1.after args s (.returned v) u = true ∧ limb_1_2.after args s (.returned v) u = true ∧ True) → FrameEnd s (.returned v) u (Jvm.fieldLocs frame_1_writes args s ++ Jvm.arrayLocs frame_1_arrays args s ++ Jvm.staticLocs frame_1_statics s) 0 0 → Post tb e args s (.returned v) u) :
    ArmFor flags0 classFile x code maxLocals ret World_1 tables_1 room_1 Calls_1 rest_1 Pre_1 Post := by
  intro l hfl _ _ p e ha hc hk s m args below hf hA hF happ hP
  obtain ⟨hcalls, hrest, hpre⟩ := hP
  obtain ⟨-, -, -, hnamed, -, -, -, hat⟩ := (Spec.applies_iff hf).mp happ
  obtain ⟨hg, hn⟩ := and_e (Cond.before_iff.mp (show (Jvm.Cond.and given_1 narrow_1).before args s = true from hpre))
  obtain ⟨g6, g7⟩ := and_e hg
  obtain ⟨g8, g9⟩ := and_e g7
  obtain ⟨g10, g11⟩ := and_e g9
  obtain ⟨w0, w1, w2, rfl⟩ : ∃ w0 w1 w2 : Value, args = #[w0, w1, w2] := by
    have hs : args.size = 3 := by simpa [Cond.value, given_1] using g6
    obtain ⟨L⟩ := args
    match L, hs with
    | [w0, w1, w2], _ => exact ⟨w0, w1, w2, rfl⟩
  have hw := fun d (hd : d ∈ tables_1) => atoms_spec (ws := Jvm.Cond.code x code maxLocals ret :: tables_1) hat d (List.mem_cons_of_mem _ hd)
  have hfit : Fit s := fun {y c} hc i hi => by
    obtain ⟨ha, rfl⟩ := Array.getElem?_eq_some_iff.mp hc
    have q := List.all_eq_true.mp ((Array.all_eq_true_iff_forall_mem.mp hF) _ (Array.getElem_mem ha)) i (List.mem_range.mpr hi)
    simpa [Array.getElem?_eq_getElem hi] using q
  obtain ⟨i0, ei0⟩ := is_v g8
  obtain rfl : w0 = (.int i0) := Option.some.inj ei0
  obtain ⟨i1, ei1⟩ := is_v g10
  obtain rfl : w1 = (.int i1) := Option.some.inj ei1
  obtain ⟨i2, ei2⟩ := is_v g11
  obtain rfl : w2 = (.int i2) := Option.some.inj ei2
  obtain ⟨n, o, h1, h2, h3, _, L, rfl, ⟨rfl, N⟩, hq⟩ := rm0 l s _ hw tables_1 i0 i1 i2 s.heap s.heap.size (Nat.le_refl _) p e ha hc hk s m _ below hf ((Spec.applies_iff_loose hf).mp happ).1 ⟨rfl, State.Warmed39.refl s, rfl⟩ trivial
  refine ⟨n, _, h1, h2, h3, hpost _ _ _ _ _ _ ⟨Cond.after_iff.mpr rfl, Cond.after_iff.mpr (eq_i res_at (Term.int_eval (1)) rfl), trivial⟩ ⟨hq.1, hq.2.1, (hq.2.2.sift fun y hy => Or.inr (N y hy)).mono (by decide) (by decide)⟩⟩
theorem main_1_1 : Claimed_1_1 := comes_1 fun _ _ _ _ _ _ h hF => ⟨h.1, hF⟩
theorem main_1_2 : Claimed_1_2 := comes_1 fun _ _ _ _ _ _ h hF => ⟨h.2.1, hF⟩

end Jvm.Pilot.@@N@@
namespace Jvm.Pilot.@@N@@
open Jvm Jvm.ClassFile Sem Op Lib Jvm.Free Jvm.Stand Jvm.Pilot.@@N@@.Jvm.D
/-! MADE BY PROGRAM (witnessworld.py) out of the Statement's table words and the real class files: 9 classes; the members and pool entries that the words name. The judged class is class 1, her method 2. -/
namespace start1
open Jvm.ClassFile
def u (s : String) : CpInfo := .utf8 (stringToUtf16 s)
/-- a pool by its gaps: so many unusable entries, then the entry; so many at the end -/
def gap : Nat → List CpInfo → List CpInfo
  | 0, r => r
  | n + 1, r => .unusable :: gap n r
def poolList (es : List (Nat × CpInfo)) (last : Nat) : List CpInfo := es.foldr (fun e r => gap e.1 (e.2 :: r)) (gap last [])
def pool (es : List (Nat × CpInfo)) (last : Nat) : Array CpInfo := ⟨poolList es last⟩
def fileOf (pool : Array CpInfo) (this : Nat) (attrs : Array Attribute := #[]) (ms : Array MethodInfo := #[]) (fl : Nat := 33) (sup : Nat := 0) (ifs : Array Nat := #[]) (fds : Array FieldInfo := #[]) : ClassFile where
  minorVersion := 0
  majorVersion := 65
  constantPool := pool
  accessFlags := fl
  thisClass := this
  superClass := sup
  interfaces := ifs
  fields := fds
  methods := ms
  attributes := attrs
def plain (name : String) (sup : Option ClassId) : Class where
  name := name
  kind := .ordinary
  loader := none
  accessFlags := 33
  super := sup
  interfaces := #[]
  cf := none
  fields := #[]
  methods := #[]
  instanceTypes := #[]
  staticTypes := #[]
  resolved := #[]
  callSites := []
  init := .initialized
  statics := none
  mirror := none

def pool0 : Array CpInfo := pool [(5, u "<init>"), (0, u "()V"), (1, .class_ 10), (1, u "java/lang/Object")] 113

def k0m0 : Method := { name := "<init>", desc := "()V", sig := { parameters := [], returnType := none }, accessFlags := 1, code := none }
/-- java/lang/Object -/
def k0 : Class := { plain "java/lang/Object" none with
  accessFlags := 33
  interfaces := #[]
  cf := some (fileOf pool0 8 #[] #[{ accessFlags := 1, nameIndex := 5, descriptorIndex := 6, attributes := #[] }] 33 0 #[] #[])
  fields := #[]
  methods := #[k0m0]
  instanceTypes := #[]
  staticTypes := #[]
  resolved := Array.replicate 124 none
  statics := none }

def pool1 : Array CpInfo := pool [(2, .class_ 4), (1, u "java/lang/Object"), (0, u "<init>"), (0, u "()V"), (0, .double 4427038433705197568), (1, .double 4431542033332568064), (1, .double 13650410470559973376), (1, .double 13654914070187343872), (1, .integer 2147483647), (0, .double 4652218415073722368), (1, .methodref 19 20), (0, .class_ 21), (0, .nameAndType 22 23), (0, u "com/example/loomwork/loomwork/select/UtilityBetterPinLaw"), (0, u "offset"), (0, u "(I)D"), (0, .methodref 25 26), (0, .class_ 27), (0, .nameAndType 28 29), (0, u "com/example/loomwork/loomwork/select/Utility"), (0, u "better"), (0, u "(DD)Z"), (3, u "law"), (0, u "(III)Z")] 2

def k1m0 : Method := { name := "<init>", desc := "()V", sig := { parameters := [], returnType := none }, accessFlags := 2, code := none }
def k1c1 : Code := { maxStack := 2, maxLocals := 1, code := method_2_code, exceptionTable := #[], attributes := #[] }
def k1m1 : Method := { name := "offset", desc := "(I)D", sig := { parameters := [.int], returnType := some .double }, accessFlags := 10, code := some k1c1 }
def k1c2 : Code := { maxStack := 4, maxLocals := 13, code := code, exceptionTable := #[], attributes := #[] }
def k1m2 : Method := { name := "law", desc := "(III)Z", sig := { parameters := [.int, .int, .int], returnType := some .boolean }, accessFlags := 9, code := some k1c2 }
/-- com/example/loomwork/loomwork/select/UtilityBetterPinLaw -/
def k1 : Class := { plain "com/example/loomwork/loomwork/select/UtilityBetterPinLaw" (some 0) with
  accessFlags := 49
  interfaces := #[]
  cf := some (fileOf pool1 19 #[] #[{ accessFlags := 2, nameIndex := 5, descriptorIndex := 6, attributes := #[] }, { accessFlags := 10, nameIndex := 22, descriptorIndex := 23, attributes := #[] }, { accessFlags := 9, nameIndex := 33, descriptorIndex := 34, attributes := #[] }] 49 2 #[] #[])
  fields := #[]
  methods := #[k1m0, k1m1, k1m2]
  instanceTypes := #[]
  staticTypes := #[]
  resolved := Array.replicate 37 none
  statics := none }

def pool2 : Array CpInfo := pool [(2, .class_ 4), (1, u "java/lang/Object"), (5, u "[D"), (3, .class_ 16), (1, u "com/example/loomwork/loomwork/select/Utility"), (0, u "weights"), (8, u "lowerIsBetter"), (0, u "[Z"), (11, u "lowest"), (2, u "highest"), (4, .double 4427486594234968593), (1, u "EQUAL_WITHIN"), (0, u "D"), (11, u "better"), (0, u "(DD)Z")] 2

def k2c0 : Code := { maxStack := 6, maxLocals := 4, code := prog_36_method_5_code, exceptionTable := #[], attributes := #[] }
def k2m0 : Method := { name := "better", desc := "(DD)Z", sig := { parameters := [.double, .double], returnType := some .boolean }, accessFlags := 8, code := some k2c0 }
/-- com/example/loomwork/loomwork/select/Utility -/
def k2 : Class := { plain "com/example/loomwork/loomwork/select/Utility" (some 0) with
  accessFlags := 48
  interfaces := #[]
  cf := some (fileOf pool2 14 #[] #[{ accessFlags := 8, nameIndex := 62, descriptorIndex := 63, attributes := #[] }] 48 2 #[] #[{ accessFlags := 24, nameIndex := 49, descriptorIndex := 50, attributes := #[] }, { accessFlags := 18, nameIndex := 17, descriptorIndex := 10, attributes := #[] }, { accessFlags := 18, nameIndex := 26, descriptorIndex := 27, attributes := #[] }, { accessFlags := 18, nameIndex := 39, descriptorIndex := 10, attributes := #[] }, { accessFlags := 18, nameIndex := 42, descriptorIndex := 10, attributes := #[] }])
  fields := #[{ name := "EQUAL_WITHIN", type := .double, accessFlags := 24, slot := 0, constantValue := 0 }, { name := "weights", type := (.array .double), accessFlags := 18, slot := 0, constantValue := 0 }, { name := "lowerIsBetter", type := (.array .boolean), accessFlags := 18, slot := 1, constantValue := 0 }, { name := "lowest", type := (.array .double), accessFlags := 18, slot := 2, constantValue := 0 }, { name := "highest", type := (.array .double), accessFlags := 18, slot := 3, constantValue := 0 }]
  methods := #[k2m0]
  instanceTypes := #[(.array .double), (.array .boolean), (.array .double), (.array .double)]
  staticTypes := #[.double]
  resolved := Array.replicate 66 none
  statics := none }

def pool3 : Array CpInfo := pool [(1, u "java/lang/Cloneable"), (0, .class_ 1), (0, u "java/lang/Object"), (0, .class_ 3)] 3

/-- java/lang/Cloneable -/
def k3 : Class := { plain "java/lang/Cloneable" (some 0) with
  accessFlags := 1537
  interfaces := #[]
  cf := some (fileOf pool3 2 #[] #[] 1537 4 #[] #[])
  fields := #[]
  methods := #[]
  instanceTypes := #[]
  staticTypes := #[]
  resolved := Array.replicate 8 none
  statics := none }

def pool4 : Array CpInfo := pool [(1, u "java/io/Serializable"), (0, .class_ 1), (0, u "java/lang/Object"), (0, .class_ 3)] 3

/-- java/io/Serializable -/
def k4 : Class := { plain "java/io/Serializable" (some 0) with
  accessFlags := 1537
  interfaces := #[]
  cf := some (fileOf pool4 2 #[] #[] 1537 4 #[] #[])
  fields := #[]
  methods := #[]
  instanceTypes := #[]
  staticTypes := #[]
  resolved := Array.replicate 8 none
  statics := none }

/-- the primitive byte -/
def k5 : Class := { plain "byte" none with kind := .primitive 'B', accessFlags := 0x411 }
/-- [B -/
def k6 : Class := { plain "[B" (some 0) with kind := .array 5 .byte, interfaces := #[3, 4], accessFlags := 1041 }

/-- the primitive int -/
def k7 : Class := { plain "int" none with kind := .primitive 'I', accessFlags := 0x411 }
/-- [I -/
def k8 : Class := { plain "[I" (some 0) with kind := .array 7 .int, interfaces := #[3, 4], accessFlags := 1041 }

def heap : Heap := #[]
def classes : Array Class := #[k0, k1, k2, k3, k4, k5, k6, k7, k8]
def interned : List (Array UInt16 × Addr) := []
def slotsUsed : Nat := 0
def theMethod : MethodId := ⟨1, 2⟩
def args0 : Array Value := #[.int 5, .int 7, .int 9]
def aboutOver (below : List Frame) : State where
  vm := { classes := classes, interned := interned.toArray }
  heap := heap
  slotsUsed := slotsUsed
  threads := #[{ frames := .invoking theMethod args0 :: below }]
def below0 : List Frame := [.native { method := ⟨0, 0⟩, args := #[] }]
def about1 : State := aboutOver below0
def p0 : Program := .bare "" "" ""
def e0 : Env := launch0.env 0 0 0
theorem w_frames : about1.frames = Frame.invoking theMethod args0 :: below0 := rfl
set_option maxRecDepth 65536 in
theorem w_args : argsFit about1.vm theMethod args0 = true := by decide +kernel
set_option maxRecDepth 65536 in
theorem w_heap : heapFits about1 = true := by decide +kernel
set_option maxRecDepth 65536 in
theorem w_runnable : about1.curStatus? = some .runnable := by decide +kernel
set_option maxRecDepth 65536 in
theorem w_alone : about1.alone = true := by decide +kernel
set_option maxRecDepth 65536 in
theorem w_named : about1.methodNamed? x = some theMethod := by decide +kernel
set_option maxRecDepth 65536 in
theorem w_hears : about1.hears theMethod below0 = true := by decide +kernel
set_option maxRecDepth 65536 in
theorem w_ripe : about1.ripe theMethod args0 below0 = true := by decide +kernel
theorem w_running : about1.status = .running := rfl
set_option maxRecDepth 65536 in
theorem w_room : about1.hasRoom e0.platform room_1 = true :=
  launch0.hasRoom_least _ room_1 (by decide +kernel) (by decide +kernel) (by decide +kernel) (by decide +kernel) (by decide +kernel) (by decide +kernel)
theorem allAtoms_all (ts : List Jvm.Cond) (a : Array Jvm.Value) (st : Jvm.State) : (allAtoms ts).before a st = ts.all (fun c => c.before a st) := by
  induction ts with
  | nil => rfl
  | cons c t ih =>
    show (Jvm.Cond.and c (allAtoms t)).before a st = _
    rw [Jvm.Cond.before_and, ih, List.all_cons]
def words1 : List Jvm.Cond := Jvm.Cond.code x code maxLocals ret :: tables_1
/-- a 'code' word, met by the world's own term for the bytes: nothing is compared byte by byte -/
theorem code_word {y : MethodName} {bytes : ByteArray} {mx : Nat} {rt : Option FieldType} {a : Array Value} {s : State} {m : MethodId} {meth : Method} {c : Code} (h1 : s.methodNamed? y = some m) (h2 : s.vm.method? m = some meth) (h3 : meth.code = some c) (h4 : c.code = bytes)
    (h5 : (c.maxLocals == mx && c.exceptionTable.isEmpty && decide (c.maxStack ≤ mostOperands) && decide (meth.sig.returnType = rt) && !meth.locks && decide (parseMethodDescriptor y.desc = some meth.sig)) = true) : (Jvm.Cond.code y bytes mx rt).before a s = true := by
  simp only [Bool.and_eq_true, beq_iff_eq, Bool.not_eq_true', decide_eq_true_eq] at h5
  obtain ⟨⟨⟨⟨⟨g1, g2⟩, g3⟩, g4⟩, g5⟩, g6⟩ := h5
  simp [Cond.before, Cond.holds, Cond.value, h1, h2, h3, h4, g1, g2, g3, g4, g5, g6]
def isCode : Jvm.Cond → Bool
  | .code _ _ _ _ => true
  | _ => false
theorem all_split {L : List Jvm.Cond} {P : Jvm.Cond → Bool} (h1 : L.all (fun c => isCode c || P c) = true) (h2 : ∀ c ∈ L.filter isCode, P c = true) : L.all P = true := by
  refine List.all_eq_true.mpr fun c hc => ?_
  have h := List.all_eq_true.mp h1 c hc
  rcases Bool.eq_false_or_eq_true (isCode c) with hi | hi
  · exact h2 c (List.mem_filter.mpr ⟨hc, hi⟩)
  · simpa [hi] using h
set_option maxRecDepth 65536 in
theorem w_c0 : (Jvm.Cond.code x code maxLocals ret).before args0 about1 = true := code_word (m := ⟨1, 2⟩) (meth := k1m2) (c := k1c2) (by decide +kernel) rfl rfl rfl (by decide +kernel)
set_option maxRecDepth 65536 in
theorem w_c1 : (Jvm.Cond.code ({ cls := "com/example/loomwork/loomwork/select/UtilityBetterPinLaw", name := "offset", desc := "(I)D" } : Jvm.MethodName) method_2_code (1 : Nat) (Option.some Jvm.ClassFile.FieldType.double)).before args0 about1 = true := code_word (m := ⟨1, 1⟩) (meth := k1m1) (c := k1c1) (by decide +kernel) rfl rfl rfl (by decide +kernel)
set_option maxRecDepth 65536 in
theorem w_c2 : (Jvm.Cond.code ({ cls := "com/example/loomwork/loomwork/select/Utility", name := "better", desc := "(DD)Z" } : Jvm.MethodName) prog_36_method_5_code (4 : Nat) (Option.some Jvm.ClassFile.FieldType.boolean)).before args0 about1 = true := code_word (m := ⟨2, 0⟩) (meth := k2m0) (c := k2c0) (by decide +kernel) rfl rfl rfl (by decide +kernel)
def codes1 : List Jvm.Cond := [Jvm.Cond.code x code maxLocals ret, Jvm.Cond.code ({ cls := "com/example/loomwork/loomwork/select/UtilityBetterPinLaw", name := "offset", desc := "(I)D" } : Jvm.MethodName) method_2_code (1 : Nat) (Option.some Jvm.ClassFile.FieldType.double), Jvm.Cond.code ({ cls := "com/example/loomwork/loomwork/select/Utility", name := "better", desc := "(DD)Z" } : Jvm.MethodName) prog_36_method_5_code (4 : Nat) (Option.some Jvm.ClassFile.FieldType.boolean)]
set_option maxRecDepth 65536 in
theorem codes_eq : words1.filter isCode = codes1 := rfl
theorem w_codes : ∀ c ∈ words1.filter isCode, c.before args0 about1 = true := by
  rw [codes_eq]
  intro c hc
  simp only [codes1, List.mem_cons, List.not_mem_nil, or_false] at hc
  rcases hc with rfl | rfl | rfl
  · exact w_c0
  · exact w_c1
  · exact w_c2
set_option maxRecDepth 65536 in
theorem w_t1 : words1.all (fun c => isCode c || c.before args0 about1) = true := by decide +kernel
theorem w_tables : (allAtoms (Jvm.Cond.code x code maxLocals ret :: tables_1)).before args0 about1 = true := by
  rw [allAtoms_all]
  show words1.all (fun c => c.before args0 about1) = true
  refine all_split ?_ w_codes
  rw [w_t1]
set_option maxRecDepth 65536 in
theorem w_case : (Jvm.Cond.and given_1 narrow_1).before args0 about1 = true := by decide +kernel
theorem w_applies : (headSpec (Jvm.Cond.code x code maxLocals ret :: tables_1) room_1).applies x e0.platform about1 = true :=
  (Spec.applies_iff w_frames).mpr ⟨w_running, w_runnable, w_alone, w_named, w_hears, w_ripe, w_room, w_tables⟩
theorem atStart : AtStart classFile x code maxLocals ret World_1 tables_1 room_1 Calls_1 rest_1 Pre_1 launch0 p0 e0 about1 theMethod args0 below0 :=
  ⟨lists_1, trivial, launch0.admits_env _ _ _, launch0.least_env, fairChoices_fair.cas, fairChoices_fair.clock, w_frames, w_args, w_heap, w_applies, trivial, trivial, w_case⟩
end start1
theorem witness_1 : WitnessClaimed_1 := ⟨start1.p0, start1.e0, start1.about1, start1.theMethod, start1.args0, start1.below0, start1.atStart⟩
end Jvm.Pilot.@@N@@
