import JvmDerived
import JvmDerived.Pilot.@@N@@Statement
import JvmDerived.Pilot.@@N@@Code
set_option linter.unusedVariables false
set_option linter.unusedSimpArgs false
namespace Jvm.RoadKit
open Sem ClassFile Op Lib Jvm.Stand Jvm.Free Jvm.LawKit
section New
variable {p : Program} {l : Launch} {e : Env} {R : Room} {s : State} {m : MethodId} {args : Array Value} {below : List Frame} {meth : Method} {c : Code} {T : State} {locs : List Loc} {cells slots : Nat}
theorem retI (X : Stand p l e R s m args below meth c T locs cells slots) (hx : p.tables.exec = Jvm.exec) {pc : Nat} {Ls : Array Slot} {z : Int32} {rest : List Value} (hret : meth.sig.returnType = some .int) (hd : decode c.code pc = .ok (.ireturn, 1)) {fs : List Frame}
    (hl : ∀ (f : JFrame) (acts : List Action), f.method = m → f.locked = none → f.entered = [] → (doReturn e (T.setTop f) acts (some (.int z))).1 = T.setFrames fs) : Steps p.tables e below (T.setTop (mkF m pc Ls (.int z :: rest))) (T.setFrames fs) := by
  have hm' : T.vm.method? m = some meth := X.method'
  have hn : narrow .int (.int z) = .int z := rfl
  show Steps p.tables e below (T.setTop { method := m, pc := pc, locals := Ls, stack := _ :: rest, locked := none }) _
  jvm_step X.here [X.here.top, hx, hd, hm', hret, hn]
  first | (intro acts; rw [hl _ acts rfl rfl rfl]) | rw [hl _ _ rfl rfl rfl]
  exact Steps.refl _
end New
end Jvm.RoadKit
namespace Jvm.Pilot.@@N@@
section OwnFl
open Jvm.FP.Core
/-- a double's value in units of 2^-1074 -/
def own_z (a : UInt64) : Int := zval b64 (val64 a)
theorem own_signed (N : Int) : signed (decide (N < 0)) N.natAbs = N := by
  unfold signed
  by_cases h : N < 0
  · simp only [h, decide_true, if_true]; omega
  · simp only [h, decide_false, Bool.false_eq_true, if_false]; omega
theorem own_qmax : b64.qmax = 971 := by decide
theorem own_p : b64.p = 53 := rfl
theorem own_rep {N : Int} {j : Nat} (hN : N.natAbs < 2 ^ 53) (hj : j ≤ 2045) :
    ∃ V : Datum, Jvm.FP.Core.fits b64 V ∧ V ≠ .nan ∧ (∀ s, V ≠ .inf s) ∧ zval b64 V = N * ((2 ^ j : Nat) : Int) := by
  obtain ⟨c', q', h1, h2⟩ := round_exact good_b64 (decide (N < 0)) (c := N.natAbs) (q := (j : Int) - 1074) hN (by rw [qmin_b64]; omega) (by rw [own_qmax]; omega)
  refine ⟨.fin (decide (N < 0)) c' q', h1 ▸ round_fits good_b64 _, by simp, by simp, ?_⟩
  show signed (decide (N < 0)) (inUnits c' q' b64.qmin) = _
  rw [h2]
  unfold inUnits
  rw [qmin_b64, signed_mul, own_signed, show ((j : Int) - 1074 - -1074).toNat = j by omega]
theorem own_top {V : Datum} (h1 : Jvm.FP.Core.fits b64 V) (h2 : V ≠ .nan) (h3 : ∀ s, V ≠ .inf s) : zmag b64 V < b64.tails * 2 ^ (b64.exps - 2) := by
  cases V with
  | nan => exact absurd rfl h2
  | inf s => exact absurd rfl (h3 s)
  | fin s c q => exact zmag_lt_top good_b64 h1
theorem own_zabs (d : Datum) : (zval b64 d).natAbs = zmag b64 d := natAbs_signed _ _
theorem own_fin {a : UInt64} (hn : val64 a ≠ .nan) {N : Int} {j : Nat} (hN : N.natAbs < 2 ^ 53) (hj : j ≤ 2045)
    (h1 : -(N * ((2 ^ j : Nat) : Int)) ≤ own_z a) (h2 : own_z a ≤ N * ((2 ^ j : Nat) : Int)) : DFin a := by
  obtain ⟨V, f1, f2, f3, f4⟩ := own_rep hN hj
  have t := own_top f1 f2 f3
  rw [← f4] at h1 h2
  have e1 := own_zabs V
  have e2 := own_zabs (val64 a)
  have e3 : own_z a = zval b64 (val64 a) := rfl
  cases hd : val64 a with
  | nan => exact absurd hd hn
  | inf s =>
    rw [hd] at e2 e3
    have e4 : zmag b64 (.inf s) = b64.tails * 2 ^ (b64.exps - 2) := rfl
    rw [e4] at e2
    generalize b64.tails * 2 ^ (b64.exps - 2) = X at *
    omega
  | fin s c q => exact ⟨s, c, q, hd⟩
theorem own_nn {a : UInt64} (h : DFin a) : Jvm.Free.Fl.NoNaN64 a := (Jvm.Free.Fl.fin64_core.mpr h).noNaN
theorem own_z_neg (a : UInt64) : own_z (Jvm.FP.dneg a) = -own_z a := by
  unfold own_z
  rw [Jvm.FP.val64_dneg, zval_negate]
theorem own_fin_neg {a : UInt64} (h : DFin a) : DFin (Jvm.FP.dneg a) := by
  obtain ⟨s, c, q, h⟩ := h
  exact ⟨!s, c, q, by rw [Jvm.FP.val64_dneg, h]; rfl⟩
-- sums
theorem own_add_nn {a b : UInt64} (ha : DFin a) (hb : DFin b) : val64 (Jvm.FP.dadd a b) ≠ .nan := (notNaN_iff _).mp (dadd_out ha.notNaN hb)
theorem own_add_le {a b : UInt64} (ha : DFin a) (hb : DFin b) {N : Int} {j : Nat} (hN : N.natAbs < 2 ^ 53) (hj : j ≤ 2045)
    (h : own_z a + own_z b ≤ N * ((2 ^ j : Nat) : Int)) : own_z (Jvm.FP.dadd a b) ≤ N * ((2 ^ j : Nat) : Int) := by
  obtain ⟨V, f1, f2, -, f4⟩ := own_rep hN hj
  have q := sum_le good_b64 ha hb (val64_fits a) (val64_fits b) f1 f2 (by rw [f4]; exact h)
  rw [f4, ← val64_dadd] at q
  exact q
theorem own_add_ge {a b : UInt64} (ha : DFin a) (hb : DFin b) {N : Int} {j : Nat} (hN : N.natAbs < 2 ^ 53) (hj : j ≤ 2045)
    (h : N * ((2 ^ j : Nat) : Int) ≤ own_z a + own_z b) : N * ((2 ^ j : Nat) : Int) ≤ own_z (Jvm.FP.dadd a b) := by
  obtain ⟨V, f1, f2, -, f4⟩ := own_rep hN hj
  have q := sum_ge good_b64 ha hb (val64_fits a) (val64_fits b) f1 f2 (by rw [f4]; exact h)
  rw [f4, ← val64_dadd] at q
  exact q
theorem own_fin_abs {a : UInt64} (hn : val64 a ≠ .nan) {N : Int} {j : Nat} (hN : N.natAbs < 2 ^ 53) (hj : j ≤ 2045) (h : own_z a = N * ((2 ^ j : Nat) : Int)) : DFin a := by
  have p : (0 : Int) ≤ ((2 ^ j : Nat) : Int) := Int.natCast_nonneg _
  by_cases s : 0 ≤ N
  · have := Int.mul_nonneg s p
    exact own_fin hn hN hj (by omega) (by omega)
  · have q := Int.mul_nonneg (show (0 : Int) ≤ -N by omega) p
    rw [Int.neg_mul] at q
    refine own_fin hn (N := -N) (j := j) (by omega) hj ?_ ?_ <;> rw [Int.neg_mul] <;> omega
theorem own_add {a b : UInt64} (ha : DFin a) (hb : DFin b) {N : Int} {j : Nat} (hN : N.natAbs < 2 ^ 53) (hj : j ≤ 2045)
    (h : own_z a + own_z b = N * ((2 ^ j : Nat) : Int)) : DFin (Jvm.FP.dadd a b) ∧ own_z (Jvm.FP.dadd a b) = N * ((2 ^ j : Nat) : Int) := by
  have q : own_z (Jvm.FP.dadd a b) = N * ((2 ^ j : Nat) : Int) := by
    have h1 := own_add_le ha hb hN hj (Int.le_of_eq h)
    have h2 := own_add_ge ha hb hN hj (Int.le_of_eq h.symm)
    omega
  exact ⟨own_fin_abs (own_add_nn ha hb) hN hj q, q⟩
theorem own_sub_eq {a b : UInt64} (hb : DFin b) : Jvm.FP.dsub a b = Jvm.FP.dadd a (Jvm.FP.dneg b) := by
  rw [Jvm.FP.dneg_core hb.notNaN]; exact dsub_eq a b
theorem own_sum_val {a b : UInt64} (ha : DFin a) (hb : DFin b) (hz : own_z a + own_z b ≠ 0) :
    val64 (Jvm.FP.dadd a b) = roundRatio b64 (decide (own_z a + own_z b < 0)) (own_z a + own_z b).natAbs 1 (-1074) := by
  have fa := val64_fits a
  have fb := val64_fits b
  have za : own_z a = zval b64 (val64 a) := rfl
  have zb : own_z b = zval b64 (val64 b) := rfl
  obtain ⟨s, c, q, ea⟩ := ha
  obtain ⟨t, d, r, eb⟩ := hb
  rw [show val64 (Jvm.FP.dadd a b) = _ from val64_dadd a b, ea, eb]
  rw [ea] at fa za
  rw [eb] at fb zb
  obtain ⟨sg, n, e, h1, h2, h3⟩ := sum_units fa fb
  rw [← za, ← zb] at h3
  rw [h1]
  show roundRatio b64 sg n 1 e = _
  rw [qmin_b64] at h2
  have hn : inUnits n e b64.qmin = (own_z a + own_z b).natAbs := by rw [← h3, natAbs_signed]
  have hs : sg = decide (own_z a + own_z b < 0) := by
    have hp : 0 < inUnits n e b64.qmin := by omega
    rw [← h3]; exact (signed_lt_zero sg hp).symm
  rw [← hs]
  refine roundRatio_congr (by decide) (by decide) ?_
  rw [← hn]
  unfold inUnits
  rw [qmin_b64, show (-1074 - e).toNat = 0 by omega, Nat.pow_zero, Nat.mul_one, Nat.mul_one, Nat.mul_one]
theorem own_sum_same {a b a' b' : UInt64} (ha : DFin a) (hb : DFin b) (ha' : DFin a') (hb' : DFin b') (h : own_z a + own_z b = own_z a' + own_z b') (hz : own_z a + own_z b ≠ 0) : Jvm.FP.dadd a b = Jvm.FP.dadd a' b' := by
  refine val64_inj (own_add_nn ha hb) ?_
  rw [own_sum_val ha hb hz, own_sum_val ha' hb' (by rw [← h]; exact hz), h]
theorem own_sub_same {a b a' : UInt64} (ha : DFin a) (hb : DFin b) (ha' : DFin a') (h : own_z a = own_z a') (hz : own_z a ≠ own_z b) : Jvm.FP.dsub a b = Jvm.FP.dsub a' b := by
  rw [own_sub_eq hb, own_sub_eq hb]
  exact own_sum_same ha (own_fin_neg hb) ha' (own_fin_neg hb) (by rw [h]) (by rw [own_z_neg]; omega)
-- products
theorem own_mul_nn {a b : UInt64} (ha : DFin a) (hb : DFin b) : val64 (Jvm.FP.dmul a b) ≠ .nan := (notNaN_iff _).mp (dmul_out ha hb)
theorem own_mul {a b : UInt64} (ha : DFin a) (hb : DFin b) {N : Int} {j : Nat} (hN : N.natAbs < 2 ^ 53) (hj : j ≤ 2045)
    (h : own_z a * own_z b = N * ((2 ^ j : Nat) : Int) * ((2 ^ 1074 : Nat) : Int)) : DFin (Jvm.FP.dmul a b) ∧ own_z (Jvm.FP.dmul a b) = N * ((2 ^ j : Nat) : Int) := by
  have q : own_z (Jvm.FP.dmul a b) = N * ((2 ^ j : Nat) : Int) := by
    obtain ⟨V, f1, f2, -, f4⟩ := own_rep hN hj
    have fa := val64_fits a
    have fb := val64_fits b
    obtain ⟨s, c, q, ea⟩ := ha
    obtain ⟨t, d, r, eb⟩ := hb
    unfold own_z at h ⊢
    rw [ea] at fa
    rw [eb] at fb
    rw [val64_dmul, ea, eb]
    rw [ea, eb] at h
    obtain ⟨u1, u2, u3⟩ := product_units fa fb
    rw [u1]
    have e : signed (s != t) (inUnits (c * d) (q + r) (2 * b64.qmin)) = zval b64 (.fin s c q) * zval b64 (.fin t d r) := by
      rw [u3]; exact signed_xor s t _ _
    have k : (b64.qmin - 2 * b64.qmin).toNat = 1074 := by rw [qmin_b64]; decide
    have w1 := zval_round_le good_b64 f1 f2 (e0 := 2 * b64.qmin) (by rw [qmin_b64]; decide) u2 (by rw [e, h, f4, k]; exact Int.le_refl _)
    have w2 := zval_round_ge good_b64 f1 f2 (e0 := 2 * b64.qmin) (by rw [qmin_b64]; decide) u2 (by rw [e, h, f4, k]; exact Int.le_refl _)
    rw [f4] at w1 w2
    exact Int.le_antisymm w1 w2
  exact ⟨own_fin_abs (own_mul_nn ha hb) hN hj q, q⟩
-- quotients by a positive number
theorem own_div_val {a b : UInt64} (ha : DFin a) (hb : DFin b) (hz : own_z b ≠ 0) :
    val64 (Jvm.FP.ddiv a b) = roundRatio b64 (sgn (val64 a) != sgn (val64 b)) (own_z a).natAbs (own_z b).natAbs 0 := by
  have fa := val64_fits a
  have fb := val64_fits b
  have ea' : (own_z a).natAbs = zmag b64 (val64 a) := own_zabs _
  have eb' : (own_z b).natAbs = zmag b64 (val64 b) := own_zabs _
  have hz' : zmag b64 (val64 b) ≠ 0 := by omega
  rw [ea', eb', show val64 (Jvm.FP.ddiv a b) = _ from val64_ddiv a b]
  obtain ⟨s, c, q, ea⟩ := ha
  obtain ⟨t, d, r, eb⟩ := hb
  rw [ea] at fa ⊢
  rw [eb] at fb hz' ⊢
  have q1 := fa.2.1
  have r1 := fb.2.1
  have hz2 : inUnits d r b64.qmin ≠ 0 := hz'
  unfold inUnits at hz2
  have hd : d ≠ 0 := fun z => hz2 (by rw [z, Nat.zero_mul])
  show (if d = 0 then _ else roundRatio b64 (s != t) c d (q - r)) = roundRatio b64 (s != t) (inUnits c q b64.qmin) (inUnits d r b64.qmin) 0
  rw [if_neg hd]
  refine roundRatio_congr (Nat.pos_of_ne_zero hd) (Nat.pos_of_ne_zero hz') ?_
  unfold inUnits
  rw [qmin_b64] at *
  have e1 : (q - r - 0).toNat + (r - -1074).toNat = (q - -1074).toNat + (0 - (q - r)).toNat := by omega
  calc c * (d * 2 ^ (r - -1074).toNat) * 2 ^ (q - r - 0).toNat = c * d * 2 ^ ((q - r - 0).toNat + (r - -1074).toNat) := by rw [Nat.pow_add]; ac_rfl
    _ = c * d * 2 ^ ((q - -1074).toNat + (0 - (q - r)).toNat) := by rw [e1]
    _ = c * 2 ^ (q - -1074).toNat * d * 2 ^ (0 - (q - r)).toNat := by rw [Nat.pow_add]; ac_rfl
theorem own_sgn_pos {a : UInt64} (h : 0 < own_z a) : sgn (val64 a) = false := by
  cases e : sgn (val64 a) with
  | false => rfl
  | true =>
    have : own_z a = -((zmag b64 (val64 a) : Nat) : Int) := by unfold own_z zval; rw [e]; rfl
    omega
theorem own_sgn_neg {a : UInt64} (h : own_z a < 0) : sgn (val64 a) = true := by
  cases e : sgn (val64 a) with
  | true => rfl
  | false =>
    have : own_z a = ((zmag b64 (val64 a) : Nat) : Int) := by unfold own_z zval; rw [e]; rfl
    omega
theorem own_div_z {a b : UInt64} (ha : DFin a) (hb : DFin b) (hz : 0 < own_z b) :
    own_z (Jvm.FP.ddiv a b) = signed (sgn (val64 a)) (zmag b64 (roundRatio b64 (sgn (val64 a)) (own_z a).natAbs (own_z b).natAbs 0)) := by
  unfold own_z zval
  have q := own_div_val ha hb (by omega)
  rw [own_sgn_pos hz, Bool.bne_false] at q
  unfold own_z at q
  rw [q, sgn_roundRatio]
  rfl
theorem own_div_nn {a b : UInt64} (ha : DFin a) (hb : DFin b) (hz : own_z b ≠ 0) : val64 (Jvm.FP.ddiv a b) ≠ .nan := by
  rw [own_div_val ha hb hz]; exact roundRatio_ne_nan _ _ _ _ _
theorem own_rr_le {s : Bool} {A B : Nat} (hB : 0 < B) {N : Int} {j : Nat} (hN : N.natAbs < 2 ^ 53) (hj : j ≤ 2045) (h : A * 2 ^ 1074 ≤ N.natAbs * 2 ^ j * B) :
    zmag b64 (roundRatio b64 s A B 0) ≤ N.natAbs * 2 ^ j := by
  obtain ⟨V, f1, f2, -, f4⟩ := own_rep hN hj
  have e : zmag b64 V = N.natAbs * 2 ^ j := by rw [← own_zabs, f4, Int.natAbs_mul, Int.natAbs_natCast]
  have q := zmag_roundRatio_le good_b64 (s := s) (A := A) (B := B) (e := 0) (e0 := b64.qmin) hB f1 f2 (Int.le_refl _) (by rw [qmin_b64]; decide)
    (by unfold inUnits; rw [e, Int.sub_self, qmin_b64, show ((0 : Int) - -1074).toNat = 1074 from rfl, show (0 : Int).toNat = 0 from rfl, Nat.pow_zero, Nat.mul_one]; exact h)
  rw [e] at q; exact q
theorem own_rr_ge {s : Bool} {A B : Nat} (hB : 0 < B) {N : Int} {j : Nat} (hN : N.natAbs < 2 ^ 53) (hj : j ≤ 2045) (h : N.natAbs * 2 ^ j * B ≤ A * 2 ^ 1074) :
    N.natAbs * 2 ^ j ≤ zmag b64 (roundRatio b64 s A B 0) := by
  obtain ⟨V, f1, f2, -, f4⟩ := own_rep hN hj
  have e : zmag b64 V = N.natAbs * 2 ^ j := by rw [← own_zabs, f4, Int.natAbs_mul, Int.natAbs_natCast]
  have q := zmag_roundRatio_ge good_b64 (s := s) (A := A) (B := B) (e := 0) (e0 := b64.qmin) hB f1 (Int.le_refl _) (by rw [qmin_b64]; decide)
    (by unfold inUnits; rw [e, Int.sub_self, qmin_b64, show ((0 : Int) - -1074).toNat = 1074 from rfl, show (0 : Int).toNat = 0 from rfl, Nat.pow_zero, Nat.mul_one]; exact h)
  rw [e] at q; exact q
theorem own_cast_le {A B N : Nat} {j k : Nat} (h : (A : Int) * ((2 ^ k : Nat) : Int) ≤ (N : Int) * ((2 ^ j : Nat) : Int) * (B : Int)) : A * 2 ^ k ≤ N * 2 ^ j * B := by
  rw [← Int.natCast_mul, ← Int.natCast_mul, ← Int.natCast_mul] at h
  exact Int.ofNat_le.mp h
theorem own_cast_ge {A B N : Nat} {j k : Nat} (h : (N : Int) * ((2 ^ j : Nat) : Int) * (B : Int) ≤ (A : Int) * ((2 ^ k : Nat) : Int)) : N * 2 ^ j * B ≤ A * 2 ^ k := by
  rw [← Int.natCast_mul, ← Int.natCast_mul, ← Int.natCast_mul] at h
  exact Int.ofNat_le.mp h
theorem own_div_le {a b : UInt64} (ha : DFin a) (hb : DFin b) (hz : 0 < own_z b) {N : Int} {j : Nat} (hN : N.natAbs < 2 ^ 53) (hj : j ≤ 2045)
    (h : own_z a * ((2 ^ 1074 : Nat) : Int) ≤ N * ((2 ^ j : Nat) : Int) * own_z b) : own_z (Jvm.FP.ddiv a b) ≤ N * ((2 ^ j : Nat) : Int) := by
  rw [own_div_z ha hb hz]
  have p : (0 : Int) < ((2 ^ j : Nat) : Int) := by exact_mod_cast Nat.two_pow_pos j
  have p2 : (0 : Int) < ((2 ^ 1074 : Nat) : Int) := by exact_mod_cast Nat.two_pow_pos 1074
  have hB : 0 < (own_z b).natAbs := by omega
  have eb : ((own_z b).natAbs : Int) = own_z b := by omega
  by_cases s : 0 ≤ N
  · have q := Int.mul_nonneg s (Int.le_of_lt p)
    have eN : (N.natAbs : Int) = N := by omega
    cases e : sgn (val64 a) with
    | true =>
      show -((_ : Nat) : Int) ≤ _
      omega
    | false =>
      have ez : own_z a = ((own_z a).natAbs : Int) := by
        have : own_z a = ((zmag b64 (val64 a) : Nat) : Int) := by unfold own_z zval; rw [e]; rfl
        omega
      have r := own_rr_le (s := false) (A := (own_z a).natAbs) hB hN hj (own_cast_le (by rw [eb, eN, ← ez]; exact h))
      show ((_ : Nat) : Int) ≤ _
      have r2 := Int.ofNat_le.mpr r
      rw [Int.natCast_mul, eN] at r2
      exact r2
  · have nb : own_z a < 0 := by
      refine Int.lt_of_not_ge fun g => ?_
      have g1 := Int.mul_nonneg g (Int.le_of_lt p2)
      have g2 := Int.mul_pos (Int.mul_pos (show (0 : Int) < -N by omega) p) hz
      rw [Int.neg_mul, Int.neg_mul] at g2
      omega
    rw [own_sgn_neg nb]
    show -((_ : Nat) : Int) ≤ _
    have eN : (N.natAbs : Int) = -N := by omega
    have ez : ((own_z a).natAbs : Int) = -own_z a := by omega
    have r := own_rr_ge (s := true) (A := (own_z a).natAbs) hB hN hj (own_cast_ge (by rw [eb, eN, ez, Int.neg_mul, Int.neg_mul, Int.neg_mul]; omega))
    have r2 := Int.ofNat_le.mpr r
    rw [Int.natCast_mul, eN, Int.neg_mul] at r2
    omega
theorem own_div_ge {a b : UInt64} (ha : DFin a) (hb : DFin b) (hz : 0 < own_z b) {N : Int} {j : Nat} (hN : N.natAbs < 2 ^ 53) (hj : j ≤ 2045)
    (h : N * ((2 ^ j : Nat) : Int) * own_z b ≤ own_z a * ((2 ^ 1074 : Nat) : Int)) : N * ((2 ^ j : Nat) : Int) ≤ own_z (Jvm.FP.ddiv a b) := by
  have q := own_div_le (own_fin_neg ha) hb hz (N := -N) (j := j) (by omega) hj (by rw [own_z_neg, Int.neg_mul, Int.neg_mul, Int.neg_mul]; omega)
  have e : own_z (Jvm.FP.ddiv (Jvm.FP.dneg a) b) = -own_z (Jvm.FP.ddiv a b) := by
    unfold own_z
    rw [show val64 (Jvm.FP.ddiv (Jvm.FP.dneg a) b) = _ from val64_ddiv _ b, Jvm.FP.val64_dneg, quotient_negate, zval_negate, show val64 (Jvm.FP.ddiv a b) = _ from val64_ddiv a b]
  rw [e, Int.neg_mul] at q
  omega
theorem own_div {a b : UInt64} (ha : DFin a) (hb : DFin b) (hz : 0 < own_z b) {N : Int} {j : Nat} (hN : N.natAbs < 2 ^ 53) (hj : j ≤ 2045)
    (h : own_z a * ((2 ^ 1074 : Nat) : Int) = N * ((2 ^ j : Nat) : Int) * own_z b) : DFin (Jvm.FP.ddiv a b) ∧ own_z (Jvm.FP.ddiv a b) = N * ((2 ^ j : Nat) : Int) := by
  have q : own_z (Jvm.FP.ddiv a b) = N * ((2 ^ j : Nat) : Int) :=
    Int.le_antisymm (own_div_le ha hb hz hN hj (Int.le_of_eq h)) (own_div_ge ha hb hz hN hj (Int.le_of_eq h.symm))
  exact ⟨own_fin_abs (own_div_nn ha hb (by omega)) hN hj q, q⟩
theorem own_div_same {a b a' b' : UInt64} (ha : DFin a) (hb : DFin b) (ha' : DFin a') (hb' : DFin b') (pa : 0 < own_z a) (pb : 0 < own_z b) (pa' : 0 < own_z a') (pb' : 0 < own_z b')
    (h : own_z a * own_z b' = own_z a' * own_z b) : Jvm.FP.ddiv a b = Jvm.FP.ddiv a' b' := by
  refine val64_inj (own_div_nn ha hb (by omega)) ?_
  rw [own_div_val ha hb (by omega), own_div_val ha' hb' (by omega), own_sgn_pos pa, own_sgn_pos pb, own_sgn_pos pa', own_sgn_pos pb']
  refine roundRatio_congr (by omega) (by omega) ?_
  rw [show ((0 : Int) - 0).toNat = 0 from rfl, Nat.pow_zero, Nat.mul_one, Nat.mul_one, ← Int.natAbs_mul, ← Int.natAbs_mul, h]
-- comparison
theorem own_cmp {a b : UInt64} (ha : val64 a ≠ .nan) (hb : val64 b ≠ .nan) : Jvm.FP.dcmp a b = some (compare (own_z a) (own_z b)) := dcmp_zval ha hb
theorem own_cmp_int {a b : UInt64} (ha : val64 a ≠ .nan) (hb : val64 b ≠ .nan) (o : Jvm.ClassFile.CmpOp) :
    Jvm.Op.cmpValue (Jvm.FP.dcmp a b) o = if own_z a < own_z b then -1 else if own_z a = own_z b then 0 else 1 := by
  rw [own_cmp ha hb, compare_ite]
  by_cases h : own_z a < own_z b
  · rw [if_pos h, if_pos h]; cases o <;> rfl
  · rw [if_neg h, if_neg h]
    by_cases h2 : own_z a = own_z b
    · rw [if_pos h2, if_pos h2]; cases o <;> rfl
    · rw [if_neg h2, if_neg h2]; cases o <;> rfl
-- whole numbers
theorem own_z_l2d {i : Int64} (h : i.toInt.natAbs ≤ 2 ^ 53) : own_z (Jvm.FP.l2d i) = i.toInt * ((2 ^ 1074 : Nat) : Int) := DInt_zval (l2d_int h)
theorem own_z_i2d (i : Int32) : own_z (Jvm.FP.i2d i) = i.toInt * ((2 ^ 1074 : Nat) : Int) := DInt_zval (i2d_int i)
theorem own_fin_l2d (i : Int64) : DFin (Jvm.FP.l2d i) := l2d_fin i
theorem own_fin_i2d (i : Int32) : DFin (Jvm.FP.i2d i) := i2d_fin i
-- n / 2^k
def Dy (n : Int) (k : Nat) (a : UInt64) : Prop := DFin a ∧ own_z a = n * ((2 ^ (1074 - k) : Nat) : Int)
theorem Dy.fin {n : Int} {k : Nat} {a : UInt64} (h : Dy n k a) : DFin a := h.1
theorem Dy.nn {n : Int} {k : Nat} {a : UInt64} (h : Dy n k a) : Jvm.Free.Fl.NoNaN64 a := own_nn h.1
theorem Dy.i2d (i : Int32) : Dy i.toInt 0 (Jvm.FP.i2d i) := ⟨own_fin_i2d i, own_z_i2d i⟩
theorem Dy.l2d {i : Int64} (h : i.toInt.natAbs ≤ 2 ^ 53) : Dy i.toInt 0 (Jvm.FP.l2d i) := ⟨own_fin_l2d i, own_z_l2d h⟩
theorem Dy.add {n m : Int} {k : Nat} {a b : UInt64} (ha : Dy n k a) (hb : Dy m k b) (h : (n + m).natAbs < 2 ^ 53) : Dy (n + m) k (Jvm.FP.dadd a b) :=
  own_add ha.1 hb.1 h (by omega) (by rw [ha.2, hb.2, Int.add_mul])
theorem Dy.neg {n : Int} {k : Nat} {a : UInt64} (ha : Dy n k a) : Dy (-n) k (Jvm.FP.dneg a) := ⟨own_fin_neg ha.1, by rw [own_z_neg, ha.2, Int.neg_mul]⟩
theorem Dy.sub {n m : Int} {k : Nat} {a b : UInt64} (ha : Dy n k a) (hb : Dy m k b) (h : (n - m).natAbs < 2 ^ 53) : Dy (n - m) k (Jvm.FP.dsub a b) := by
  rw [own_sub_eq hb.1]; exact Dy.add ha hb.neg (by rw [← Int.sub_eq_add_neg]; exact h)
theorem own_pow {k : Nat} (h : k ≤ 1074) : ((2 ^ (1074 - k) : Nat) : Int) * ((2 ^ k : Nat) : Int) = ((2 ^ 1074 : Nat) : Int) := by
  rw [← Int.natCast_mul, ← Nat.pow_add, Nat.sub_add_cancel h]
theorem own_pow_pos (k : Nat) : (0 : Int) < ((2 ^ k : Nat) : Int) := by exact_mod_cast Nat.two_pow_pos k
theorem Dy.conv {n m : Int} {k l : Nat} {a : UInt64} (ha : Dy n k a) (hk : k ≤ 1074) (hl : l ≤ 1074) (h : n * ((2 ^ l : Nat) : Int) = m * ((2 ^ k : Nat) : Int)) : Dy m l a := by
  refine ⟨ha.1, ?_⟩
  have e1 := own_pow hk
  have e2 := own_pow hl
  have p1 := own_pow_pos k
  have p2 := own_pow_pos l
  rw [ha.2]
  generalize ((2 ^ (1074 - k) : Nat) : Int) = A at *
  generalize ((2 ^ (1074 - l) : Nat) : Int) = B at *
  generalize ((2 ^ k : Nat) : Int) = K at *
  generalize ((2 ^ l : Nat) : Int) = L at *
  refine Int.eq_of_mul_eq_mul_right (Int.ne_of_gt (Int.mul_pos p1 p2)) ?_
  calc n * A * (K * L) = n * L * (A * K) := by ac_rfl
    _ = m * K * (B * L) := by rw [h, e1, e2]
    _ = m * B * (K * L) := by ac_rfl
theorem Dy.mul {n m : Int} {k l : Nat} {a b : UInt64} (ha : Dy n k a) (hb : Dy m l b) (hk : k + l ≤ 1074) (h : (n * m).natAbs < 2 ^ 53) : Dy (n * m) (k + l) (Jvm.FP.dmul a b) := by
  refine own_mul ha.1 hb.1 h (by omega) ?_
  rw [ha.2, hb.2]
  have e1 : ((2 ^ (1074 - k) : Nat) : Int) * ((2 ^ (1074 - l) : Nat) : Int) = ((2 ^ (1074 - (k + l)) : Nat) : Int) * ((2 ^ 1074 : Nat) : Int) := by
    rw [← Int.natCast_mul, ← Int.natCast_mul, ← Nat.pow_add, ← Nat.pow_add]
    congr 2; omega
  generalize ((2 ^ (1074 - k) : Nat) : Int) = A at *
  generalize ((2 ^ (1074 - l) : Nat) : Int) = B at *
  generalize ((2 ^ (1074 - (k + l)) : Nat) : Int) = C at *
  generalize ((2 ^ 1074 : Nat) : Int) = O at *
  calc n * A * (m * B) = n * m * (A * B) := by ac_rfl
    _ = n * m * C * O := by rw [e1]; ac_rfl
theorem Dy.mulx {n m N : Int} {k l r : Nat} {a b : UInt64} (ha : Dy n k a) (hb : Dy m l b) (hk : k ≤ 1074) (hl : l ≤ 1074) (hr : r ≤ 1074)
    (h : n * m * ((2 ^ r : Nat) : Int) = N * ((2 ^ k : Nat) : Int) * ((2 ^ l : Nat) : Int)) (hN : N.natAbs < 2 ^ 53) : Dy N r (Jvm.FP.dmul a b) := by
  refine own_mul ha.1 hb.1 hN (by omega) ?_
  rw [ha.2, hb.2]
  have e1 := own_pow hk
  have e2 := own_pow hl
  have e3 := own_pow hr
  have p1 := own_pow_pos k
  have p2 := own_pow_pos l
  have p3 := own_pow_pos r
  generalize ((2 ^ 1074 : Nat) : Int) = O at *
  generalize ((2 ^ (1074 - k) : Nat) : Int) = A at *
  generalize ((2 ^ (1074 - l) : Nat) : Int) = B at *
  generalize ((2 ^ (1074 - r) : Nat) : Int) = C at *
  generalize ((2 ^ k : Nat) : Int) = K at *
  generalize ((2 ^ l : Nat) : Int) = L at *
  generalize ((2 ^ r : Nat) : Int) = R at *
  refine Int.eq_of_mul_eq_mul_right (Int.ne_of_gt (Int.mul_pos p1 (Int.mul_pos p2 p3))) ?_
  calc n * A * (m * B) * (K * (L * R)) = n * m * R * ((A * K) * (B * L)) := by ac_rfl
    _ = N * K * L * (O * (C * R)) := by rw [h, e1, e2, e3]
    _ = N * C * O * (K * (L * R)) := by ac_rfl
theorem Dy.pos {n : Int} {k : Nat} {a : UInt64} (ha : Dy n k a) (h : 0 < n) : 0 < own_z a := by rw [ha.2]; exact Int.mul_pos h (own_pow_pos _)
theorem Dy.div {n m N : Int} {k l r : Nat} {a b : UInt64} (ha : Dy n k a) (hb : Dy m l b) (hm : 0 < m) (hk : k ≤ 1074) (hl : l ≤ 1074) (hr : r ≤ 1074)
    (h : n * ((2 ^ l : Nat) : Int) * ((2 ^ r : Nat) : Int) = N * m * ((2 ^ k : Nat) : Int)) (hN : N.natAbs < 2 ^ 53) : Dy N r (Jvm.FP.ddiv a b) := by
  refine own_div ha.1 hb.1 (hb.pos hm) hN (by omega) ?_
  rw [ha.2, hb.2]
  have e1 := own_pow hk
  have e2 := own_pow hl
  have e3 := own_pow hr
  have p1 := own_pow_pos k
  have p2 := own_pow_pos l
  have p3 := own_pow_pos r
  generalize ((2 ^ 1074 : Nat) : Int) = O at *
  generalize ((2 ^ (1074 - k) : Nat) : Int) = A at *
  generalize ((2 ^ (1074 - l) : Nat) : Int) = B at *
  generalize ((2 ^ (1074 - r) : Nat) : Int) = C at *
  generalize ((2 ^ k : Nat) : Int) = K at *
  generalize ((2 ^ l : Nat) : Int) = L at *
  generalize ((2 ^ r : Nat) : Int) = R at *
  refine Int.eq_of_mul_eq_mul_right (Int.ne_of_gt (Int.mul_pos p1 (Int.mul_pos p2 p3))) ?_
  calc n * A * O * (K * (L * R)) = n * L * R * (A * K) * O := by ac_rfl
    _ = N * m * K * (C * R) * (B * L) := by rw [h, e1, e2, e3]
    _ = N * C * (m * B) * (K * (L * R)) := by ac_rfl
theorem Dy.same {n m n' m' : Int} {k l k' l' : Nat} {a b a' b' : UInt64} (ha : Dy n k a) (hb : Dy m l b) (ha' : Dy n' k' a') (hb' : Dy m' l' b') (pn : 0 < n) (pm : 0 < m) (pn' : 0 < n') (pm' : 0 < m')
    (hk : k ≤ 1074) (hl : l ≤ 1074) (hk' : k' ≤ 1074) (hl' : l' ≤ 1074)
    (h : n * m' * ((2 ^ l : Nat) : Int) * ((2 ^ k' : Nat) : Int) = n' * m * ((2 ^ l' : Nat) : Int) * ((2 ^ k : Nat) : Int)) : Jvm.FP.ddiv a b = Jvm.FP.ddiv a' b' := by
  refine own_div_same ha.1 hb.1 ha'.1 hb'.1 (ha.pos pn) (hb.pos pm) (ha'.pos pn') (hb'.pos pm') ?_
  rw [ha.2, hb.2, ha'.2, hb'.2]
  have e1 := own_pow hk
  have e2 := own_pow hl
  have e3 := own_pow hk'
  have e4 := own_pow hl'
  have p1 := own_pow_pos k
  have p2 := own_pow_pos l
  have p3 := own_pow_pos k'
  have p4 := own_pow_pos l'
  generalize ((2 ^ 1074 : Nat) : Int) = O at *
  generalize ((2 ^ (1074 - k) : Nat) : Int) = A at *
  generalize ((2 ^ (1074 - l) : Nat) : Int) = B at *
  generalize ((2 ^ (1074 - k') : Nat) : Int) = A' at *
  generalize ((2 ^ (1074 - l') : Nat) : Int) = B' at *
  generalize ((2 ^ k : Nat) : Int) = K at *
  generalize ((2 ^ l : Nat) : Int) = L at *
  generalize ((2 ^ k' : Nat) : Int) = K' at *
  generalize ((2 ^ l' : Nat) : Int) = L' at *
  refine Int.eq_of_mul_eq_mul_right (Int.ne_of_gt (Int.mul_pos (Int.mul_pos p1 p2) (Int.mul_pos p3 p4))) ?_
  calc n * A * (m' * B') * (K * L * (K' * L')) = n * m' * L * K' * ((A * K) * (B' * L')) := by ac_rfl
    _ = n' * m * L' * K * ((A' * K') * (B * L)) := by rw [h, e1, e2, e3, e4]
    _ = n' * A' * (m * B) * (K * L * (K' * L')) := by ac_rfl
theorem Dy.cmp {n m : Int} {k : Nat} {a b : UInt64} (ha : Dy n k a) (hb : Dy m k b) (o : Jvm.ClassFile.CmpOp) :
    Jvm.Op.cmpValue (Jvm.FP.dcmp a b) o = if n < m then -1 else if n = m then 0 else 1 := by
  rw [own_cmp_int ha.1.ne_nan hb.1.ne_nan, ha.2, hb.2]
  have p := own_pow_pos (1074 - k)
  generalize ((2 ^ (1074 - k) : Nat) : Int) = A at *
  have e1 : (n * A < m * A) ↔ n < m := ⟨fun q => Int.lt_of_mul_lt_mul_right q (Int.le_of_lt p), fun q => Int.mul_lt_mul_of_pos_right q p⟩
  have e2 : (n * A = m * A) ↔ n = m := ⟨fun q => Int.eq_of_mul_eq_mul_right (Int.ne_of_gt p) q, fun q => by rw [q]⟩
  simp only [e1, e2]
theorem Dy.div_le {n m N : Int} {k r : Nat} {a b : UInt64} (ha : Dy n k a) (hb : Dy m k b) (hm : 0 < m) (hr : r ≤ 1074) (hN : N.natAbs < 2 ^ 53)
    (h : n * ((2 ^ r : Nat) : Int) ≤ N * m) : own_z (Jvm.FP.ddiv a b) ≤ N * ((2 ^ (1074 - r) : Nat) : Int) := by
  refine own_div_le ha.1 hb.1 (hb.pos hm) hN (by omega) ?_
  rw [ha.2, hb.2, ← own_pow hr]
  have p1 := own_pow_pos (1074 - k)
  have p2 := own_pow_pos (1074 - r)
  generalize ((2 ^ (1074 - k) : Nat) : Int) = A at *
  generalize ((2 ^ (1074 - r) : Nat) : Int) = C at *
  generalize ((2 ^ r : Nat) : Int) = R at *
  have q := Int.mul_le_mul_of_nonneg_right h (Int.le_of_lt (Int.mul_pos p1 p2))
  calc n * A * (C * R) = n * R * (A * C) := by ac_rfl
    _ ≤ N * m * (A * C) := q
    _ = N * C * (m * A) := by ac_rfl
theorem Dy.div_ge {n m N : Int} {k r : Nat} {a b : UInt64} (ha : Dy n k a) (hb : Dy m k b) (hm : 0 < m) (hr : r ≤ 1074) (hN : N.natAbs < 2 ^ 53)
    (h : N * m ≤ n * ((2 ^ r : Nat) : Int)) : N * ((2 ^ (1074 - r) : Nat) : Int) ≤ own_z (Jvm.FP.ddiv a b) := by
  refine own_div_ge ha.1 hb.1 (hb.pos hm) hN (by omega) ?_
  rw [ha.2, hb.2, ← own_pow hr]
  have p1 := own_pow_pos (1074 - k)
  have p2 := own_pow_pos (1074 - r)
  generalize ((2 ^ (1074 - k) : Nat) : Int) = A at *
  generalize ((2 ^ (1074 - r) : Nat) : Int) = C at *
  generalize ((2 ^ r : Nat) : Int) = R at *
  have q := Int.mul_le_mul_of_nonneg_right h (Int.le_of_lt (Int.mul_pos p1 p2))
  calc N * C * (m * A) = N * m * (A * C) := by ac_rfl
    _ ≤ n * R * (A * C) := q
    _ = n * A * (C * R) := by ac_rfl
theorem Dy.div_nn {n m : Int} {k l : Nat} {a b : UInt64} (ha : Dy n k a) (hb : Dy m l b) (hm : 0 < m) : val64 (Jvm.FP.ddiv a b) ≠ .nan :=
  own_div_nn ha.1 hb.1 (Int.ne_of_gt (hb.pos hm))
theorem own_fin64 {a : UInt64} (h : DFin a) : Jvm.Free.Fl.Fin64 a := Jvm.Free.Fl.fin64_core.mpr h
theorem own_nz64 {a : UInt64} (h : DFin a) (hz : own_z a ≠ 0) : Jvm.Free.Fl.Nz64 a := Jvm.Free.Fl.nz64_core.mpr (dnot_zero h.ne_nan hz)
theorem own_nn' {a : UInt64} (h : val64 a ≠ .nan) : Jvm.Free.Fl.NoNaN64 a := Jvm.Free.Fl.noNaN64_no.mpr ((notNaN_iff a).mpr h)
theorem own_c_lt (P Q : Prop) [Decidable P] [Decidable Q] : (if P then (-1 : Int32) else if Q then 0 else 1) < (0 : Int32) ↔ P := by
  by_cases h : P
  · rw [if_pos h]; exact ⟨fun _ => h, fun _ => by decide⟩
  · rw [if_neg h]
    by_cases h2 : Q
    · rw [if_pos h2]; exact ⟨fun q => absurd q (by decide), fun q => absurd q h⟩
    · rw [if_neg h2]; exact ⟨fun q => absurd q (by decide), fun q => absurd q h⟩
theorem own_c_gt (P Q : Prop) [Decidable P] [Decidable Q] : (0 : Int32) < (if P then (-1 : Int32) else if Q then 0 else 1) ↔ ¬ P ∧ ¬ Q := by
  by_cases h : P
  · rw [if_pos h]; exact ⟨fun q => absurd q (by decide), fun q => absurd h q.1⟩
  · rw [if_neg h]
    by_cases h2 : Q
    · rw [if_pos h2]; exact ⟨fun q => absurd q (by decide), fun q => absurd h2 q.2⟩
    · rw [if_neg h2]; exact ⟨fun _ => ⟨h, h2⟩, fun _ => by decide⟩
theorem own_c_eq (P Q : Prop) [Decidable P] [Decidable Q] : (if P then (-1 : Int32) else if Q then 0 else 1) = (0 : Int32) ↔ ¬ P ∧ Q := by
  by_cases h : P
  · rw [if_pos h]; exact ⟨fun q => absurd q (by decide), fun q => absurd h q.1⟩
  · rw [if_neg h]
    by_cases h2 : Q
    · rw [if_pos h2]; exact ⟨fun _ => ⟨h, h2⟩, fun _ => rfl⟩
    · rw [if_neg h2]; exact ⟨fun q => absurd q (by decide), fun q => absurd q.2 h2⟩
theorem own_lt0 {a b : UInt64} (ha : val64 a ≠ .nan) (hb : val64 b ≠ .nan) (o : Jvm.ClassFile.CmpOp) : Jvm.Op.cmpValue (Jvm.FP.dcmp a b) o < (0 : Int32) ↔ own_z a < own_z b := by
  rw [own_cmp_int ha hb]; exact own_c_lt _ _
theorem own_gt0 {a b : UInt64} (ha : val64 a ≠ .nan) (hb : val64 b ≠ .nan) (o : Jvm.ClassFile.CmpOp) : (0 : Int32) < Jvm.Op.cmpValue (Jvm.FP.dcmp a b) o ↔ own_z b < own_z a := by
  rw [own_cmp_int ha hb, own_c_gt]; omega
theorem own_eq0 {a b : UInt64} (ha : val64 a ≠ .nan) (hb : val64 b ≠ .nan) (o : Jvm.ClassFile.CmpOp) : Jvm.Op.cmpValue (Jvm.FP.dcmp a b) o = (0 : Int32) ↔ own_z a = own_z b := by
  rw [own_cmp_int ha hb, own_c_eq]; omega
theorem Dy.lt0 {n m : Int} {k : Nat} {a b : UInt64} (ha : Dy n k a) (hb : Dy m k b) (o : Jvm.ClassFile.CmpOp) : Jvm.Op.cmpValue (Jvm.FP.dcmp a b) o < (0 : Int32) ↔ n < m := by
  rw [ha.cmp hb]; exact own_c_lt _ _
theorem Dy.gt0 {n m : Int} {k : Nat} {a b : UInt64} (ha : Dy n k a) (hb : Dy m k b) (o : Jvm.ClassFile.CmpOp) : (0 : Int32) < Jvm.Op.cmpValue (Jvm.FP.dcmp a b) o ↔ m < n := by
  rw [ha.cmp hb, own_c_gt]; omega
theorem Dy.eq0 {n m : Int} {k : Nat} {a b : UInt64} (ha : Dy n k a) (hb : Dy m k b) (o : Jvm.ClassFile.CmpOp) : Jvm.Op.cmpValue (Jvm.FP.dcmp a b) o = (0 : Int32) ↔ n = m := by
  rw [ha.cmp hb, own_c_eq]; omega
theorem Dy.zero (k : Nat) : Dy 0 k Jvm.FP.dconst0 := ⟨⟨false, 0, b64.qmin, val64_dconst0⟩, by rw [Int.zero_mul]; exact zval64_zero⟩
theorem Dy.one : Dy 1 0 Jvm.FP.dconst1 := ⟨⟨false, 2 ^ 52, -52, val64_dconst1⟩, by rw [Int.one_mul]; exact (DInt_zval dint_one).trans (Int.one_mul _)⟩
theorem Dy.d2l {n : Int} {a : UInt64} (ha : Dy n 0 a) (h0 : 0 ≤ n) (h1 : n < 2 ^ 63) : (Jvm.FP.d2l a).toInt = n := by
  rw [show (Jvm.FP.d2l a).toInt = _ from d2l_val ha.1.ne_nan]
  have e : (own_z a).natAbs = zmag b64 (val64 a) := own_zabs _
  have e2 : own_z a = n * ((2 ^ 1074 : Nat) : Int) := ha.2
  have e3 : zmag b64 (val64 a) = n.natAbs * one64 := by rw [← e, e2, Int.natAbs_mul, Int.natAbs_natCast]; rfl
  rw [e3, Nat.mul_div_cancel _ one64_pos]
  by_cases hz : n = 0
  · subst hz
    rw [show (0 : Int).natAbs = 0 from rfl, signed_zero]; decide
  · rw [own_sgn_pos (ha.pos (by omega)), show signed false n.natAbs = (n.natAbs : Int) from rfl]
    omega
theorem Dy.up {n m : Int} {k l : Nat} {a : UInt64} (ha : Dy n k a) (j : Nat) (hl : l = k + j) (h : l ≤ 1074) (hm : m = n * ((2 ^ j : Nat) : Int)) : Dy m l a := by
  refine ha.conv (by omega) h ?_
  subst hl hm
  rw [Nat.pow_add, Int.natCast_mul]
  ac_rfl
end OwnFl
open Jvm Jvm.ClassFile Sem Op Lib Jvm.Free Jvm.Stand Jvm.LawKit Jvm.RoadKit Bundle Jvm.Pilot.@@N@@.Jvm.D
section OwnSt
theorem s_iload {tb : Tables} [Ours tb] {e : Env} {below : List Frame} {T target : State} {m : MethodId} {c : Code} (h : At T m c below) (hx : tb.exec = Jvm.exec) {pc : Nat} {Ls : Array Slot} {S : List Value} {k : Nat} {v : Int32} (hd : decode c.code pc = .ok (.iload k, 2)) (hl : Ls[k]? = some (.val (.int v))) (hr : Steps tb e below (T.setTop (mkF m (pc + 2) Ls (.int v :: S))) target) : Steps tb e below (T.setTop (mkF m pc Ls S)) target := XS.iload h hx rfl hd hl hr
theorem s_iloadN {tb : Tables} [Ours tb] {e : Env} {below : List Frame} {T target : State} {m : MethodId} {c : Code} (h : At T m c below) (hx : tb.exec = Jvm.exec) {pc : Nat} {Ls : Array Slot} {S : List Value} {k : Fin 4} {v : Int32} (hd : decode c.code pc = .ok (.iload_n k, 1)) (hl : Ls[k.val]? = some (.val (.int v))) (hr : Steps tb e below (T.setTop (mkF m (pc + 1) Ls (.int v :: S))) target) : Steps tb e below (T.setTop (mkF m pc Ls S)) target := XS.iloadN h hx rfl hd hl hr
theorem s_lload {tb : Tables} [Ours tb] {e : Env} {below : List Frame} {T target : State} {m : MethodId} {c : Code} (h : At T m c below) (hx : tb.exec = Jvm.exec) {pc : Nat} {Ls : Array Slot} {S : List Value} {k : Nat} {v : Int64} (hd : decode c.code pc = .ok (.lload k, 2)) (hl : Ls[k]? = some (.val (.long v))) (hr : Steps tb e below (T.setTop (mkF m (pc + 2) Ls (.long v :: S))) target) : Steps tb e below (T.setTop (mkF m pc Ls S)) target := XS.lload h hx rfl hd hl hr
theorem s_lloadN {tb : Tables} [Ours tb] {e : Env} {below : List Frame} {T target : State} {m : MethodId} {c : Code} (h : At T m c below) (hx : tb.exec = Jvm.exec) {pc : Nat} {Ls : Array Slot} {S : List Value} {k : Fin 4} {v : Int64} (hd : decode c.code pc = .ok (.lload_n k, 1)) (hl : Ls[k.val]? = some (.val (.long v))) (hr : Steps tb e below (T.setTop (mkF m (pc + 1) Ls (.long v :: S))) target) : Steps tb e below (T.setTop (mkF m pc Ls S)) target := XS.lloadN h hx rfl hd hl hr
theorem s_dload {tb : Tables} [Ours tb] {e : Env} {below : List Frame} {T target : State} {m : MethodId} {c : Code} (h : At T m c below) (hx : tb.exec = Jvm.exec) {pc : Nat} {Ls : Array Slot} {S : List Value} {k : Nat} {v : UInt64} (hd : decode c.code pc = .ok (.dload k, 2)) (hl : Ls[k]? = some (.val (.double v))) (hr : Steps tb e below (T.setTop (mkF m (pc + 2) Ls (.double v :: S))) target) : Steps tb e below (T.setTop (mkF m pc Ls S)) target := XS.dload h hx rfl hd hl hr
theorem s_dloadN {tb : Tables} [Ours tb] {e : Env} {below : List Frame} {T target : State} {m : MethodId} {c : Code} (h : At T m c below) (hx : tb.exec = Jvm.exec) {pc : Nat} {Ls : Array Slot} {S : List Value} {k : Fin 4} {v : UInt64} (hd : decode c.code pc = .ok (.dload_n k, 1)) (hl : Ls[k.val]? = some (.val (.double v))) (hr : Steps tb e below (T.setTop (mkF m (pc + 1) Ls (.double v :: S))) target) : Steps tb e below (T.setTop (mkF m pc Ls S)) target := XS.dloadN h hx rfl hd hl hr
theorem s_aload {tb : Tables} [Ours tb] {e : Env} {below : List Frame} {T target : State} {m : MethodId} {c : Code} (h : At T m c below) (hx : tb.exec = Jvm.exec) {pc : Nat} {Ls : Array Slot} {S : List Value} {k : Nat} {a : Addr} (hd : decode c.code pc = .ok (.aload k, 2)) (hl : Ls[k]? = some (.val (.ref a))) (hr : Steps tb e below (T.setTop (mkF m (pc + 2) Ls (.ref a :: S))) target) : Steps tb e below (T.setTop (mkF m pc Ls S)) target := XS.aload h hx rfl hd hl rfl hr
theorem s_aloadN {tb : Tables} [Ours tb] {e : Env} {below : List Frame} {T target : State} {m : MethodId} {c : Code} (h : At T m c below) (hx : tb.exec = Jvm.exec) {pc : Nat} {Ls : Array Slot} {S : List Value} {k : Fin 4} {a : Addr} (hd : decode c.code pc = .ok (.aload_n k, 1)) (hl : Ls[k.val]? = some (.val (.ref a))) (hr : Steps tb e below (T.setTop (mkF m (pc + 1) Ls (.ref a :: S))) target) : Steps tb e below (T.setTop (mkF m pc Ls S)) target := XS.aloadN h hx rfl hd hl rfl hr
theorem s_istore {tb : Tables} [Ours tb] {e : Env} {below : List Frame} {T target : State} {m : MethodId} {c : Code} (h : At T m c below) (hx : tb.exec = Jvm.exec) {pc : Nat} {Ls : Array Slot} {S : List Value} {k : Nat} {v : Int32} {l' : Array Slot} (hd : decode c.code pc = .ok (.istore k, 2)) (hl : storeLocals Ls k (.int v) = some l') (hr : Steps tb e below (T.setTop (mkF m (pc + 2) l' S)) target) : Steps tb e below (T.setTop (mkF m pc Ls (.int v :: S))) target := XS.istore h hx rfl hd rfl hl hr
theorem s_istoreN {tb : Tables} [Ours tb] {e : Env} {below : List Frame} {T target : State} {m : MethodId} {c : Code} (h : At T m c below) (hx : tb.exec = Jvm.exec) {pc : Nat} {Ls : Array Slot} {S : List Value} {k : Fin 4} {v : Int32} {l' : Array Slot} (hd : decode c.code pc = .ok (.istore_n k, 1)) (hl : storeLocals Ls k.val (.int v) = some l') (hr : Steps tb e below (T.setTop (mkF m (pc + 1) l' S)) target) : Steps tb e below (T.setTop (mkF m pc Ls (.int v :: S))) target := XS.istoreN h hx rfl hd rfl hl hr
theorem s_lstore {tb : Tables} [Ours tb] {e : Env} {below : List Frame} {T target : State} {m : MethodId} {c : Code} (h : At T m c below) (hx : tb.exec = Jvm.exec) {pc : Nat} {Ls : Array Slot} {S : List Value} {k : Nat} {v : Int64} {l' : Array Slot} (hd : decode c.code pc = .ok (.lstore k, 2)) (hl : storeLocals Ls k (.long v) = some l') (hr : Steps tb e below (T.setTop (mkF m (pc + 2) l' S)) target) : Steps tb e below (T.setTop (mkF m pc Ls (.long v :: S))) target := XS.lstore h hx rfl hd rfl hl hr
theorem s_lstoreN {tb : Tables} [Ours tb] {e : Env} {below : List Frame} {T target : State} {m : MethodId} {c : Code} (h : At T m c below) (hx : tb.exec = Jvm.exec) {pc : Nat} {Ls : Array Slot} {S : List Value} {k : Fin 4} {v : Int64} {l' : Array Slot} (hd : decode c.code pc = .ok (.lstore_n k, 1)) (hl : storeLocals Ls k.val (.long v) = some l') (hr : Steps tb e below (T.setTop (mkF m (pc + 1) l' S)) target) : Steps tb e below (T.setTop (mkF m pc Ls (.long v :: S))) target := XS.lstoreN h hx rfl hd rfl hl hr
theorem s_dstore {tb : Tables} [Ours tb] {e : Env} {below : List Frame} {T target : State} {m : MethodId} {c : Code} (h : At T m c below) (hx : tb.exec = Jvm.exec) {pc : Nat} {Ls : Array Slot} {S : List Value} {k : Nat} {v : UInt64} {l' : Array Slot} (hd : decode c.code pc = .ok (.dstore k, 2)) (hl : storeLocals Ls k (.double v) = some l') (hr : Steps tb e below (T.setTop (mkF m (pc + 2) l' S)) target) : Steps tb e below (T.setTop (mkF m pc Ls (.double v :: S))) target := XS.dstore h hx rfl hd rfl hl hr
theorem s_dstoreN {tb : Tables} [Ours tb] {e : Env} {below : List Frame} {T target : State} {m : MethodId} {c : Code} (h : At T m c below) (hx : tb.exec = Jvm.exec) {pc : Nat} {Ls : Array Slot} {S : List Value} {k : Fin 4} {v : UInt64} {l' : Array Slot} (hd : decode c.code pc = .ok (.dstore_n k, 1)) (hl : storeLocals Ls k.val (.double v) = some l') (hr : Steps tb e below (T.setTop (mkF m (pc + 1) l' S)) target) : Steps tb e below (T.setTop (mkF m pc Ls (.double v :: S))) target := XS.dstoreN h hx rfl hd rfl hl hr
theorem s_astore {tb : Tables} [Ours tb] {e : Env} {below : List Frame} {T target : State} {m : MethodId} {c : Code} (h : At T m c below) (hx : tb.exec = Jvm.exec) {pc : Nat} {Ls : Array Slot} {S : List Value} {k : Nat} {a : Addr} {l' : Array Slot} (hd : decode c.code pc = .ok (.astore k, 2)) (hl : storeLocals Ls k (.ref a) = some l') (hr : Steps tb e below (T.setTop (mkF m (pc + 2) l' S)) target) : Steps tb e below (T.setTop (mkF m pc Ls (.ref a :: S))) target := XS.astore h hx rfl hd rfl rfl hl hr
theorem s_astoreN {tb : Tables} [Ours tb] {e : Env} {below : List Frame} {T target : State} {m : MethodId} {c : Code} (h : At T m c below) (hx : tb.exec = Jvm.exec) {pc : Nat} {Ls : Array Slot} {S : List Value} {k : Fin 4} {a : Addr} {l' : Array Slot} (hd : decode c.code pc = .ok (.astore_n k, 1)) (hl : storeLocals Ls k.val (.ref a) = some l') (hr : Steps tb e below (T.setTop (mkF m (pc + 1) l' S)) target) : Steps tb e below (T.setTop (mkF m pc Ls (.ref a :: S))) target := XS.astoreN h hx rfl hd rfl rfl hl hr
theorem s_iconst {tb : Tables} [Ours tb] {e : Env} {below : List Frame} {T target : State} {m : MethodId} {c : Code} (h : At T m c below) (hx : tb.exec = Jvm.exec) {pc : Nat} {Ls : Array Slot} {S : List Value} {i : Int} {v : Int32} (hd : decode c.code pc = .ok (.iconst i, 1)) (hv : Int32.ofInt i = v) (hr : Steps tb e below (T.setTop (mkF m (pc + 1) Ls (.int v :: S))) target) : Steps tb e below (T.setTop (mkF m pc Ls S)) target := XS.iconst h hx rfl hd (hv ▸ hr)
theorem s_bipush {tb : Tables} [Ours tb] {e : Env} {below : List Frame} {T target : State} {m : MethodId} {c : Code} (h : At T m c below) (hx : tb.exec = Jvm.exec) {pc : Nat} {Ls : Array Slot} {S : List Value} {i : Int} {v : Int32} (hd : decode c.code pc = .ok (.bipush i, 2)) (hv : (Int8.ofInt i).toInt32 = v) (hr : Steps tb e below (T.setTop (mkF m (pc + 2) Ls (.int v :: S))) target) : Steps tb e below (T.setTop (mkF m pc Ls S)) target := XS.bipush h hx rfl hd (hv ▸ hr)
theorem s_sipush {tb : Tables} [Ours tb] {e : Env} {below : List Frame} {T target : State} {m : MethodId} {c : Code} (h : At T m c below) (hx : tb.exec = Jvm.exec) {pc : Nat} {Ls : Array Slot} {S : List Value} {i : Int} {v : Int32} (hd : decode c.code pc = .ok (.sipush i, 3)) (hv : (Int16.ofInt i).toInt32 = v) (hr : Steps tb e below (T.setTop (mkF m (pc + 3) Ls (.int v :: S))) target) : Steps tb e below (T.setTop (mkF m pc Ls S)) target := XS.sipush h hx rfl hd (hv ▸ hr)
theorem s_iadd {tb : Tables} [Ours tb] {e : Env} {below : List Frame} {T target : State} {m : MethodId} {c : Code} (h : At T m c below) (hx : tb.exec = Jvm.exec) {pc : Nat} {Ls : Array Slot} {S : List Value} {x y v : Int32} (hd : decode c.code pc = .ok (.iadd, 1)) (hv : x + y = v) (hr : Steps tb e below (T.setTop (mkF m (pc + 1) Ls (.int v :: S))) target) : Steps tb e below (T.setTop (mkF m pc Ls (.int y :: .int x :: S))) target := XS.iadd h hx rfl hd rfl (hv ▸ hr)
theorem s_isub {tb : Tables} [Ours tb] {e : Env} {below : List Frame} {T target : State} {m : MethodId} {c : Code} (h : At T m c below) (hx : tb.exec = Jvm.exec) {pc : Nat} {Ls : Array Slot} {S : List Value} {x y v : Int32} (hd : decode c.code pc = .ok (.isub, 1)) (hv : x - y = v) (hr : Steps tb e below (T.setTop (mkF m (pc + 1) Ls (.int v :: S))) target) : Steps tb e below (T.setTop (mkF m pc Ls (.int y :: .int x :: S))) target := XS.isub h hx rfl hd rfl (hv ▸ hr)
theorem s_iand {tb : Tables} [Ours tb] {e : Env} {below : List Frame} {T target : State} {m : MethodId} {c : Code} (h : At T m c below) (hx : tb.exec = Jvm.exec) {pc : Nat} {Ls : Array Slot} {S : List Value} {x y v : Int32} (hd : decode c.code pc = .ok (.iand, 1)) (hv : x &&& y = v) (hr : Steps tb e below (T.setTop (mkF m (pc + 1) Ls (.int v :: S))) target) : Steps tb e below (T.setTop (mkF m pc Ls (.int y :: .int x :: S))) target := XS.iand h hx rfl hd rfl (hv ▸ hr)
theorem s_ladd {tb : Tables} [Ours tb] {e : Env} {below : List Frame} {T target : State} {m : MethodId} {c : Code} (h : At T m c below) (hx : tb.exec = Jvm.exec) {pc : Nat} {Ls : Array Slot} {S : List Value} {x y v : Int64} (hd : decode c.code pc = .ok (.ladd, 1)) (hv : x + y = v) (hr : Steps tb e below (T.setTop (mkF m (pc + 1) Ls (.long v :: S))) target) : Steps tb e below (T.setTop (mkF m pc Ls (.long y :: .long x :: S))) target := XS.ladd h hx rfl hd rfl (hv ▸ hr)
theorem s_lsub {tb : Tables} [Ours tb] {e : Env} {below : List Frame} {T target : State} {m : MethodId} {c : Code} (h : At T m c below) (hx : tb.exec = Jvm.exec) {pc : Nat} {Ls : Array Slot} {S : List Value} {x y v : Int64} (hd : decode c.code pc = .ok (.lsub, 1)) (hv : x - y = v) (hr : Steps tb e below (T.setTop (mkF m (pc + 1) Ls (.long v :: S))) target) : Steps tb e below (T.setTop (mkF m pc Ls (.long y :: .long x :: S))) target := XS.lsub h hx rfl hd rfl (hv ▸ hr)
theorem s_i2l {tb : Tables} [Ours tb] {e : Env} {below : List Frame} {T target : State} {m : MethodId} {c : Code} (h : At T m c below) (hx : tb.exec = Jvm.exec) {pc : Nat} {Ls : Array Slot} {S : List Value} {x : Int32} (hd : decode c.code pc = .ok (.i2l, 1)) (hr : Steps tb e below (T.setTop (mkF m (pc + 1) Ls (.long x.toInt64 :: S))) target) : Steps tb e below (T.setTop (mkF m pc Ls (.int x :: S))) target := XS.i2l h hx rfl hd rfl hr
theorem s_iushr {tb : Tables} [Ours tb] {e : Env} {below : List Frame} {T target : State} {m : MethodId} {c : Code} (h : At T m c below) (hx : tb.exec = Jvm.exec) {pc : Nat} {Ls : Array Slot} {S : List Value} {x y v : Int32} (hd : decode c.code pc = .ok (.iushr, 1)) (hv : (x.toUInt32 >>> (y &&& 31).toUInt32).toInt32 = v) (hr : Steps tb e below (T.setTop (mkF m (pc + 1) Ls (.int v :: S))) target) : Steps tb e below (T.setTop (mkF m pc Ls (.int y :: .int x :: S))) target := XS.iushr h hx rfl hd rfl (hv ▸ hr)
theorem s_dup {tb : Tables} [Ours tb] {e : Env} {below : List Frame} {T target : State} {m : MethodId} {c : Code} (h : At T m c below) (hx : tb.exec = Jvm.exec) {pc : Nat} {Ls : Array Slot} {S : List Value} {x : Value} (hd : decode c.code pc = .ok (.dup, 1)) (hc : x.category = 1) (hr : Steps tb e below (T.setTop (mkF m (pc + 1) Ls (x :: x :: S))) target) : Steps tb e below (T.setTop (mkF m pc Ls (x :: S))) target := XS.dup h hx rfl hd rfl hc hr
theorem s_iinc {tb : Tables} [Ours tb] {e : Env} {below : List Frame} {T target : State} {m : MethodId} {c : Code} (h : At T m c below) (hx : tb.exec = Jvm.exec) {pc : Nat} {Ls : Array Slot} {S : List Value} {k : Nat} {i : Int} {x : Int32} {l' : Array Slot} (hd : decode c.code pc = .ok (.iinc k i, 3)) (hl : Ls[k]? = some (.val (.int x))) (hl' : storeLocals Ls k (.int (x + Int32.ofInt i)) = some l') (hr : Steps tb e below (T.setTop (mkF m (pc + 3) l' S)) target) : Steps tb e below (T.setTop (mkF m pc Ls S)) target := XS.iinc h hx rfl hd hl hl' hr
theorem s_dconst0 {tb : Tables} [Ours tb] {e : Env} {below : List Frame} {T target : State} {m : MethodId} {c : Code} (h : At T m c below) (hx : tb.exec = Jvm.exec) {pc : Nat} {Ls : Array Slot} {S : List Value}  (hd : decode c.code pc = .ok (.dconst 0, 1)) (hr : Steps tb e below (T.setTop (mkF m (pc + 1) Ls (.double FP.dconst0 :: S))) target) : Steps tb e below (T.setTop (mkF m pc Ls S)) target := XS.dconst0 h hx rfl hd rfl hr
theorem s_dconst1 {tb : Tables} [Ours tb] {e : Env} {below : List Frame} {T target : State} {m : MethodId} {c : Code} (h : At T m c below) (hx : tb.exec = Jvm.exec) {pc : Nat} {Ls : Array Slot} {S : List Value}  (hd : decode c.code pc = .ok (.dconst 1, 1)) (hr : Steps tb e below (T.setTop (mkF m (pc + 1) Ls (.double FP.dconst1 :: S))) target) : Steps tb e below (T.setTop (mkF m pc Ls S)) target := XS.dconst1 h hx rfl hd rfl hr
theorem s_i2d {tb : Tables} [Ours tb] {e : Env} {below : List Frame} {T target : State} {m : MethodId} {c : Code} (h : At T m c below) (hx : tb.exec = Jvm.exec) {pc : Nat} {Ls : Array Slot} {S : List Value} {x : Int32} {v : UInt64} (hd : decode c.code pc = .ok (.i2d, 1)) (hv : FP.i2d x = v) (hr : Steps tb e below (T.setTop (mkF m (pc + 1) Ls (.double v :: S))) target) : Steps tb e below (T.setTop (mkF m pc Ls (.int x :: S))) target := XS.i2dS h hx rfl hd rfl hv hr
theorem s_l2d {tb : Tables} [Ours tb] {e : Env} {below : List Frame} {T target : State} {m : MethodId} {c : Code} (h : At T m c below) (hx : tb.exec = Jvm.exec) {pc : Nat} {Ls : Array Slot} {S : List Value} {x : Int64} {v : UInt64} (hd : decode c.code pc = .ok (.l2d, 1)) (hv : FP.l2d x = v) (hr : Steps tb e below (T.setTop (mkF m (pc + 1) Ls (.double v :: S))) target) : Steps tb e below (T.setTop (mkF m pc Ls (.long x :: S))) target := XS.l2dS h hx rfl hd rfl hv hr
theorem s_dneg {tb : Tables} [Ours tb] {e : Env} {below : List Frame} {T target : State} {m : MethodId} {c : Code} (h : At T m c below) (hx : tb.exec = Jvm.exec) {pc : Nat} {Ls : Array Slot} {S : List Value} {x : UInt64} {v : UInt64} (hd : decode c.code pc = .ok (.dneg, 1)) (hv : FP.dneg x = v) (hr : Steps tb e below (T.setTop (mkF m (pc + 1) Ls (.double v :: S))) target) : Steps tb e below (T.setTop (mkF m pc Ls (.double x :: S))) target := XS.dnegS h hx rfl hd rfl hv hr
theorem s_dadd {tb : Tables} [Ours tb] {e : Env} {below : List Frame} {T target : State} {m : MethodId} {c : Code} (h : At T m c below) (hx : tb.exec = Jvm.exec) {pc : Nat} {Ls : Array Slot} {S : List Value} {x y v : UInt64} (hd : decode c.code pc = .ok (.dadd, 1)) (hn : Jvm.Free.Fl.NoNaN64 (FP.dadd x y)) (hv : FP.dadd x y = v) (hr : Steps tb e below (T.setTop (mkF m (pc + 1) Ls (.double v :: S))) target) : Steps tb e below (T.setTop (mkF m pc Ls (.double y :: .double x :: S))) target := XS.daddS h hx rfl hd rfl hn hv hr
theorem s_dsub {tb : Tables} [Ours tb] {e : Env} {below : List Frame} {T target : State} {m : MethodId} {c : Code} (h : At T m c below) (hx : tb.exec = Jvm.exec) {pc : Nat} {Ls : Array Slot} {S : List Value} {x y v : UInt64} (hd : decode c.code pc = .ok (.dsub, 1)) (hn : Jvm.Free.Fl.NoNaN64 (FP.dsub x y)) (hv : FP.dsub x y = v) (hr : Steps tb e below (T.setTop (mkF m (pc + 1) Ls (.double v :: S))) target) : Steps tb e below (T.setTop (mkF m pc Ls (.double y :: .double x :: S))) target := XS.dsubS h hx rfl hd rfl hn hv hr
theorem s_dmul {tb : Tables} [Ours tb] {e : Env} {below : List Frame} {T target : State} {m : MethodId} {c : Code} (h : At T m c below) (hx : tb.exec = Jvm.exec) {pc : Nat} {Ls : Array Slot} {S : List Value} {x y v : UInt64} (hd : decode c.code pc = .ok (.dmul, 1)) (hn : Jvm.Free.Fl.NoNaN64 (FP.dmul x y)) (hv : FP.dmul x y = v) (hr : Steps tb e below (T.setTop (mkF m (pc + 1) Ls (.double v :: S))) target) : Steps tb e below (T.setTop (mkF m pc Ls (.double y :: .double x :: S))) target := XS.dmulS h hx rfl hd rfl hn hv hr
theorem s_ddiv {tb : Tables} [Ours tb] {e : Env} {below : List Frame} {T target : State} {m : MethodId} {c : Code} (h : At T m c below) (hx : tb.exec = Jvm.exec) {pc : Nat} {Ls : Array Slot} {S : List Value} {x y v : UInt64} (hd : decode c.code pc = .ok (.ddiv, 1)) (hn : Jvm.Free.Fl.NoNaN64 (FP.ddiv x y)) (hv : FP.ddiv x y = v) (hr : Steps tb e below (T.setTop (mkF m (pc + 1) Ls (.double v :: S))) target) : Steps tb e below (T.setTop (mkF m pc Ls (.double y :: .double x :: S))) target := XS.ddivS h hx rfl hd rfl hn hv hr
theorem s_dcmp {tb : Tables} [Ours tb] {e : Env} {below : List Frame} {T target : State} {m : MethodId} {c : Code} (h : At T m c below) (hx : tb.exec = Jvm.exec) {pc : Nat} {Ls : Array Slot} {S : List Value} {o : CmpOp} {x y : UInt64} {v : Int32} (hd : decode c.code pc = .ok (.dcmp o, 1)) (hv : cmpValue (FP.dcmp x y) o = v) (hr : Steps tb e below (T.setTop (mkF m (pc + 1) Ls (.int v :: S))) target) : Steps tb e below (T.setTop (mkF m pc Ls (.double y :: .double x :: S))) target := XS.dcmpS h hx rfl hd rfl hv hr
theorem s_goto {tb : Tables} [Ours tb] {e : Env} {below : List Frame} {T target : State} {m : MethodId} {c : Code} (h : At T m c below) (hx : tb.exec = Jvm.exec) {pc : Nat} {Ls : Array Slot} {S : List Value} {o : Int} {pc' : Nat} (hd : decode c.code pc = .ok (.goto o, 3)) (ho : 0 ≤ (pc : Int) + o) (hp : ((pc : Int) + o).toNat = pc') (hr : Steps tb e below (T.setTop (mkF m pc' Ls S)) target) : Steps tb e below (T.setTop (mkF m pc Ls S)) target := XS.goto h hx rfl rfl hd ho hp hr
theorem s_ifY {tb : Tables} [Ours tb] {e : Env} {below : List Frame} {T target : State} {m : MethodId} {c : Code} (h : At T m c below) (hx : tb.exec = Jvm.exec) {pc : Nat} {Ls : Array Slot} {S : List Value} {cd : ClassFile.Cond} {o : Int} {x : Int32} {pc' : Nat} (hd : decode c.code pc = .ok (.ifCond cd o, 3)) (hc : ifCond.holds cd x = true) (ho : 0 ≤ (pc : Int) + o) (hp : ((pc : Int) + o).toNat = pc') (hr : Steps tb e below (T.setTop (mkF m pc' Ls S)) target) : Steps tb e below (T.setTop (mkF m pc Ls (.int x :: S))) target := XS.ifYes h hx rfl rfl hd rfl hc ho hp hr
theorem s_ifN {tb : Tables} [Ours tb] {e : Env} {below : List Frame} {T target : State} {m : MethodId} {c : Code} (h : At T m c below) (hx : tb.exec = Jvm.exec) {pc : Nat} {Ls : Array Slot} {S : List Value} {cd : ClassFile.Cond} {o : Int} {x : Int32} (hd : decode c.code pc = .ok (.ifCond cd o, 3)) (hc : ifCond.holds cd x = false) (hr : Steps tb e below (T.setTop (mkF m (pc + 3) Ls S)) target) : Steps tb e below (T.setTop (mkF m pc Ls (.int x :: S))) target := XS.ifNo h hx rfl hd rfl hc hr
theorem s_icY {tb : Tables} [Ours tb] {e : Env} {below : List Frame} {T target : State} {m : MethodId} {c : Code} (h : At T m c below) (hx : tb.exec = Jvm.exec) {pc : Nat} {Ls : Array Slot} {S : List Value} {cd : ClassFile.Cond} {o : Int} {x y : Int32} {pc' : Nat} (hd : decode c.code pc = .ok (.if_icmp cd o, 3)) (hc : if_icmp.holds cd x y = true) (ho : 0 ≤ (pc : Int) + o) (hp : ((pc : Int) + o).toNat = pc') (hr : Steps tb e below (T.setTop (mkF m pc' Ls S)) target) : Steps tb e below (T.setTop (mkF m pc Ls (.int y :: .int x :: S))) target := XS.icmpYes h hx rfl rfl hd rfl hc ho hp hr
theorem s_icN {tb : Tables} [Ours tb] {e : Env} {below : List Frame} {T target : State} {m : MethodId} {c : Code} (h : At T m c below) (hx : tb.exec = Jvm.exec) {pc : Nat} {Ls : Array Slot} {S : List Value} {cd : ClassFile.Cond} {o : Int} {x y : Int32} (hd : decode c.code pc = .ok (.if_icmp cd o, 3)) (hc : if_icmp.holds cd x y = false) (hr : Steps tb e below (T.setTop (mkF m (pc + 3) Ls S)) target) : Steps tb e below (T.setTop (mkF m pc Ls (.int y :: .int x :: S))) target := XS.icmpNo h hx rfl hd rfl hc hr
theorem own_selC {tb : Tables} [Ours tb] {e : Env} {below : List Frame} {T target : State} {m : MethodId} {c : Code} (h : At T m c below) (hx : tb.exec = Jvm.exec) {pc : Nat} {Ls : Array Slot} {S : List Value} {cd : ClassFile.Cond} {x : Int32} (hd : decode c.code pc = .ok (.ifCond cd 7, 3)) (d1 : decode c.code (pc + 3) = .ok (.iconst 1, 1)) (d2 : decode c.code (pc + 4) = .ok (.goto 4, 3)) (d3 : decode c.code (pc + 7) = .ok (.iconst 0, 1)) (hr : Steps tb e below (T.setTop (mkF m (pc + 8) Ls (.int (if ifCond.holds cd x = true then (0 : Int32) else 1) :: S))) target) : Steps tb e below (T.setTop (mkF m pc Ls (.int x :: S))) target := by
  by_cases q : ifCond.holds cd x = true
  · rw [if_pos q] at hr
    exact s_ifY h hx hd q (by omega) (pc' := pc + 7) (by omega) (s_iconst h hx d3 rfl hr)
  · rw [if_neg q] at hr
    exact s_ifN h hx hd (Bool.eq_false_iff.mpr q) (s_iconst h hx d1 rfl (s_goto h hx (pc := pc + 4) d2 (by omega) (pc' := pc + 8) (by omega) hr))
theorem own_selI {tb : Tables} [Ours tb] {e : Env} {below : List Frame} {T target : State} {m : MethodId} {c : Code} (h : At T m c below) (hx : tb.exec = Jvm.exec) {pc : Nat} {Ls : Array Slot} {S : List Value} {cd : ClassFile.Cond} {x y : Int32} (hd : decode c.code pc = .ok (.if_icmp cd 7, 3)) (d1 : decode c.code (pc + 3) = .ok (.iconst 1, 1)) (d2 : decode c.code (pc + 4) = .ok (.goto 4, 3)) (d3 : decode c.code (pc + 7) = .ok (.iconst 0, 1)) (hr : Steps tb e below (T.setTop (mkF m (pc + 8) Ls (.int (if if_icmp.holds cd x y = true then (0 : Int32) else 1) :: S))) target) : Steps tb e below (T.setTop (mkF m pc Ls (.int y :: .int x :: S))) target := by
  by_cases q : if_icmp.holds cd x y = true
  · rw [if_pos q] at hr
    exact s_icY h hx hd q (by omega) (pc' := pc + 7) (by omega) (s_iconst h hx d3 rfl hr)
  · rw [if_neg q] at hr
    exact s_icN h hx hd (Bool.eq_false_iff.mpr q) (s_iconst h hx d1 rfl (s_goto h hx (pc := pc + 4) d2 (by omega) (pc' := pc + 8) (by omega) hr))
end OwnSt
def QP (rv : Option Value) (h0 : Heap) (n0 : Nat) (v : Option Value) (h : Heap) (L : List Loc) : Prop := v = rv ∧ Fr n0 L ∧ h = h0
def QL (n0 : Nat) (v : Option Value) (h : Heap) (L : List Loc) : Prop := v = some (.int (1 : Int32)) ∧ Fr n0 L
def F1 (x : Int32) : Int32 := if (x &&& (256 : Int32)) = (0 : Int32) then x &&& (7 : Int32) else (x.toUInt32 >>> ((9 : Int32) &&& 31).toUInt32).toInt32
def F2 (x y : Int32) : Int32 := if x < y then y else x
theorem d1_0 : decode method_2_code 0 = .ok (.iload_n 0, 1) := by decide +kernel
theorem d1_1 : decode method_2_code 1 = .ok (.sipush 256, 3) := by decide +kernel
theorem d1_4 : decode method_2_code 4 = .ok (.iand, 1) := by decide +kernel
theorem d1_5 : decode method_2_code 5 = .ok (.ifCond .eq 10, 3) := by decide +kernel
theorem d1_15 : decode method_2_code 15 = .ok (.iload_n 0, 1) := by decide +kernel
theorem d1_16 : decode method_2_code 16 = .ok (.bipush 7, 2) := by decide +kernel
theorem d1_18 : decode method_2_code 18 = .ok (.iand, 1) := by decide +kernel
theorem d1_19 : decode method_2_code 19 = .ok (.ireturn, 1) := by decide +kernel
theorem pn_1 : plainName "com/example/pesquisa/pesquisa/MeasureScorePinLaw" = true := by first | (simp [plainName, overriddenIn]; done) | decide +kernel
theorem ef_1 (m : MethodId) (x0 : Int32) : entryFrame m #[(.int x0)] 1 = mkF m 0 #[.val (.int x0)] [] := by first | (simp [entryFrame, mkF, argsToLocals, Value.category]; done) | rfl
set_option maxRecDepth 65536 in
set_option maxHeartbeats 40000000 in
theorem rm1_t (l : Launch) (Z : State) (a0 : Array Value) (hw : ∀ d ∈ tables_1, d.before a0 Z = true) (ws : List Jvm.Cond) (p1 : Int32) (h0 : Heap) (n0 : Nat) (Z0 : n0 ≤ h0.size) (hc5 : (p1 &&& (256 : Int32)) = (0 : Int32)) :
    MetFree l (⟨"com/example/pesquisa/pesquisa/MeasureScorePinLaw", "gap", "(I)I"⟩ : MethodName) (head1 (Jvm.Cond.code (⟨"com/example/pesquisa/pesquisa/MeasureScorePinLaw", "gap", "(I)I"⟩ : MethodName) method_2_code 1 (some .int) :: ws) ({ frames := 0, cells := 0, slots := 0, locals := 0 } : Room)) (fun a U => a = #[(.int p1)] ∧ Z.Warmed39 U.vm ∧ U.heap = h0) (fun _ _ _ _ _ => True) (fun _ U o U' => ∃ v L, o = .returned v ∧ QP (some (.int (p1 &&& (7 : Int32)))) h0 n0 v U'.heap L ∧ FrameEnd U o U' L ({ frames := 0, cells := 0, slots := 0, locals := 0 } : Room).cells ({ frames := 0, cells := 0, slots := 0, locals := 0 } : Room).slots) := by
  refine MetFree.of_bodySF (plainFor_of_name pn_1) hisR ?_
  intro p e s m args below meth c s₁ Bd hml0 hP hK
  obtain ⟨rfl, hZ, hh⟩ := hP
  have hx := Bd.exec
  have hby := Bd.bytes
  have hml : c.maxLocals = 1 := hml0
  have hown : s.vm.findClass "com/example/pesquisa/pesquisa/MeasureScorePinLaw" = some m.cls := findClass_of_methodNamed Bd.named
  have hnm := (name_of_methodNamed Bd.named Bd.method).1
  have X0 : Stand p l e ({ frames := 0, cells := 0, slots := 0, locals := 0 } : Room) s m #[(.int p1)] below meth c s₁ [] 0 0 := Stand.of_body Bd
  have e0 : s₁.heap = h0 := by rw [← hh, Bd.state]; rfl
  have N0 := Fr.nil n0
  have pre0 : ∀ t, Steps p.tables e below (s₁.setTop (mkF m 0 #[.val (.int p1)] [])) t → Steps p.tables e below (s₁.setTop (entryFrame m #[(.int p1)] 1)) t := fun t k => castTop (ef_1 m p1) k

  obtain ⟨fs, hr, hrun, hended, hW, hsame⟩ := X0.leave (v := some (.int (p1 &&& (7 : Int32)))) (fun h => by rw [Bd.returns] at h; cases h)
  refine ⟨_, _, pre0 _ ?_, hrun, hended, _, _, rfl, ?_, ⟨_, rfl⟩, hW, hsame.mono (by decide) (by decide)⟩
  · show Steps p.tables e below (s₁.setTop (mkF m 0 #[.val (.int p1)] [])) _
    refine XS.iloadN X0.here hx rfl (hb hby d1_0) rfl ?_
    show Steps p.tables e below (s₁.setTop (mkF m 1 #[.val (.int p1)] [(.int p1)])) _
    refine XS.sipush X0.here hx rfl (hb hby d1_1) ?_
    show Steps p.tables e below (s₁.setTop (mkF m 4 #[.val (.int p1)] [(.int (256 : Int32)), (.int p1)])) _
    refine XS.iand X0.here hx rfl (hb hby d1_4) rfl ?_
    show Steps p.tables e below (s₁.setTop (mkF m 5 #[.val (.int p1)] [(.int (p1 &&& (256 : Int32)))])) _
    refine XS.ifYes X0.here hx rfl (pc0 := 5) (pc' := 15) rfl (hb hby d1_5) rfl ((if0 _ _).trans (teq hc5).1) (by decide) (by decide) ?_
    show Steps p.tables e below (s₁.setTop (mkF m 15 #[.val (.int p1)] [])) _
    refine XS.iloadN X0.here hx rfl (hb hby d1_15) rfl ?_
    show Steps p.tables e below (s₁.setTop (mkF m 16 #[.val (.int p1)] [(.int p1)])) _
    refine XS.bipush X0.here hx rfl (hb hby d1_16) ?_
    show Steps p.tables e below (s₁.setTop (mkF m 18 #[.val (.int p1)] [(.int (7 : Int32)), (.int p1)])) _
    refine XS.iand X0.here hx rfl (hb hby d1_18) rfl ?_
    show Steps p.tables e below (s₁.setTop (mkF m 19 #[.val (.int p1)] [(.int (p1 &&& (7 : Int32)))])) _
    exact retI X0 hx Bd.returns (hb hby d1_19) hr
  · show QP (some (.int (p1 &&& (7 : Int32)))) h0 n0 _ s₁.heap _
    rw [e0]
    exact ⟨rfl, N0, rfl⟩
theorem d1_8 : decode method_2_code 8 = .ok (.iload_n 0, 1) := by decide +kernel
theorem d1_9 : decode method_2_code 9 = .ok (.bipush 9, 2) := by decide +kernel
theorem d1_11 : decode method_2_code 11 = .ok (.iushr, 1) := by decide +kernel
theorem d1_12 : decode method_2_code 12 = .ok (.goto 7, 3) := by decide +kernel
set_option maxRecDepth 65536 in
set_option maxHeartbeats 40000000 in
theorem rm1_f (l : Launch) (Z : State) (a0 : Array Value) (hw : ∀ d ∈ tables_1, d.before a0 Z = true) (ws : List Jvm.Cond) (p1 : Int32) (h0 : Heap) (n0 : Nat) (Z0 : n0 ≤ h0.size) (hc5 : ¬ ((p1 &&& (256 : Int32)) = (0 : Int32))) :
    MetFree l (⟨"com/example/pesquisa/pesquisa/MeasureScorePinLaw", "gap", "(I)I"⟩ : MethodName) (head1 (Jvm.Cond.code (⟨"com/example/pesquisa/pesquisa/MeasureScorePinLaw", "gap", "(I)I"⟩ : MethodName) method_2_code 1 (some .int) :: ws) ({ frames := 0, cells := 0, slots := 0, locals := 0 } : Room)) (fun a U => a = #[(.int p1)] ∧ Z.Warmed39 U.vm ∧ U.heap = h0) (fun _ _ _ _ _ => True) (fun _ U o U' => ∃ v L, o = .returned v ∧ QP (some (.int ((p1.toUInt32 >>> ((9 : Int32) &&& 31).toUInt32).toInt32))) h0 n0 v U'.heap L ∧ FrameEnd U o U' L ({ frames := 0, cells := 0, slots := 0, locals := 0 } : Room).cells ({ frames := 0, cells := 0, slots := 0, locals := 0 } : Room).slots) := by
  refine MetFree.of_bodySF (plainFor_of_name pn_1) hisR ?_
  intro p e s m args below meth c s₁ Bd hml0 hP hK
  obtain ⟨rfl, hZ, hh⟩ := hP
  have hx := Bd.exec
  have hby := Bd.bytes
  have hml : c.maxLocals = 1 := hml0
  have hown : s.vm.findClass "com/example/pesquisa/pesquisa/MeasureScorePinLaw" = some m.cls := findClass_of_methodNamed Bd.named
  have hnm := (name_of_methodNamed Bd.named Bd.method).1
  have X0 : Stand p l e ({ frames := 0, cells := 0, slots := 0, locals := 0 } : Room) s m #[(.int p1)] below meth c s₁ [] 0 0 := Stand.of_body Bd
  have e0 : s₁.heap = h0 := by rw [← hh, Bd.state]; rfl
  have N0 := Fr.nil n0
  have pre0 : ∀ t, Steps p.tables e below (s₁.setTop (mkF m 0 #[.val (.int p1)] [])) t → Steps p.tables e below (s₁.setTop (entryFrame m #[(.int p1)] 1)) t := fun t k => castTop (ef_1 m p1) k

  obtain ⟨fs, hr, hrun, hended, hW, hsame⟩ := X0.leave (v := some (.int ((p1.toUInt32 >>> ((9 : Int32) &&& 31).toUInt32).toInt32))) (fun h => by rw [Bd.returns] at h; cases h)
  refine ⟨_, _, pre0 _ ?_, hrun, hended, _, _, rfl, ?_, ⟨_, rfl⟩, hW, hsame.mono (by decide) (by decide)⟩
  · show Steps p.tables e below (s₁.setTop (mkF m 0 #[.val (.int p1)] [])) _
    refine XS.iloadN X0.here hx rfl (hb hby d1_0) rfl ?_
    show Steps p.tables e below (s₁.setTop (mkF m 1 #[.val (.int p1)] [(.int p1)])) _
    refine XS.sipush X0.here hx rfl (hb hby d1_1) ?_
    show Steps p.tables e below (s₁.setTop (mkF m 4 #[.val (.int p1)] [(.int (256 : Int32)), (.int p1)])) _
    refine XS.iand X0.here hx rfl (hb hby d1_4) rfl ?_
    show Steps p.tables e below (s₁.setTop (mkF m 5 #[.val (.int p1)] [(.int (p1 &&& (256 : Int32)))])) _
    refine XS.ifNo X0.here hx rfl (hb hby d1_5) rfl ((if0 _ _).trans (feq hc5).1) ?_
    show Steps p.tables e below (s₁.setTop (mkF m 8 #[.val (.int p1)] [])) _
    refine XS.iloadN X0.here hx rfl (hb hby d1_8) rfl ?_
    show Steps p.tables e below (s₁.setTop (mkF m 9 #[.val (.int p1)] [(.int p1)])) _
    refine XS.bipush X0.here hx rfl (hb hby d1_9) ?_
    show Steps p.tables e below (s₁.setTop (mkF m 11 #[.val (.int p1)] [(.int (9 : Int32)), (.int p1)])) _
    refine XS.iushr X0.here hx rfl (hb hby d1_11) rfl ?_
    show Steps p.tables e below (s₁.setTop (mkF m 12 #[.val (.int p1)] [(.int ((p1.toUInt32 >>> ((9 : Int32) &&& 31).toUInt32).toInt32))])) _
    refine XS.goto X0.here hx rfl (pc0 := 12) (pc' := 19) rfl (hb hby d1_12) (by decide) (by decide) ?_
    show Steps p.tables e below (s₁.setTop (mkF m 19 #[.val (.int p1)] [(.int ((p1.toUInt32 >>> ((9 : Int32) &&& 31).toUInt32).toInt32))])) _
    exact retI X0 hx Bd.returns (hb hby d1_19) hr
  · show QP (some (.int ((p1.toUInt32 >>> ((9 : Int32) &&& 31).toUInt32).toInt32))) h0 n0 _ s₁.heap _
    rw [e0]
    exact ⟨rfl, N0, rfl⟩
theorem rm1 (l : Launch) (Z : State) (a0 : Array Value) (hw : ∀ d ∈ tables_1, d.before a0 Z = true) (ws : List Jvm.Cond) (p1 : Int32) (h0 : Heap) (n0 : Nat) (Z0 : n0 ≤ h0.size) :
    MetFree l (⟨"com/example/pesquisa/pesquisa/MeasureScorePinLaw", "gap", "(I)I"⟩ : MethodName) (head1 (Jvm.Cond.code (⟨"com/example/pesquisa/pesquisa/MeasureScorePinLaw", "gap", "(I)I"⟩ : MethodName) method_2_code 1 (some .int) :: ws) ({ frames := 0, cells := 0, slots := 0, locals := 0 } : Room)) (fun a U => a = #[(.int p1)] ∧ Z.Warmed39 U.vm ∧ U.heap = h0) (fun _ _ _ _ _ => True) (fun _ U o U' => ∃ v L, o = .returned v ∧ QP (some (.int (F1 p1))) h0 n0 v U'.heap L ∧ FrameEnd U o U' L ({ frames := 0, cells := 0, slots := 0, locals := 0 } : Room).cells ({ frames := 0, cells := 0, slots := 0, locals := 0 } : Room).slots) := by
  by_cases h5 : (p1 &&& (256 : Int32)) = (0 : Int32)
  · rw [show F1 p1 = p1 &&& (7 : Int32) from if_pos h5]; exact rm1_t l Z a0 hw ws p1 h0 n0 Z0 h5
  · rw [show F1 p1 = (p1.toUInt32 >>> ((9 : Int32) &&& 31).toUInt32).toInt32 from if_neg h5]; exact rm1_f l Z a0 hw ws p1 h0 n0 Z0 h5
theorem d2_0 : decode jdk_29_method_65_code 0 = .ok (.iload_n 0, 1) := by decide +kernel
theorem d2_1 : decode jdk_29_method_65_code 1 = .ok (.iload_n 1, 1) := by decide +kernel
theorem d2_2 : decode jdk_29_method_65_code 2 = .ok (.if_icmp .lt 7, 3) := by decide +kernel
theorem d2_9 : decode jdk_29_method_65_code 9 = .ok (.iload_n 1, 1) := by decide +kernel
theorem d2_10 : decode jdk_29_method_65_code 10 = .ok (.ireturn, 1) := by decide +kernel
theorem ef_2 (m : MethodId) (x0 : Int32) (x1 : Int32) : entryFrame m #[(.int x0), (.int x1)] 2 = mkF m 0 #[.val (.int x0), .val (.int x1)] [] := by first | (simp [entryFrame, mkF, argsToLocals, Value.category]; done) | rfl
set_option maxRecDepth 65536 in
set_option maxHeartbeats 40000000 in
theorem rm2_t (l : Launch) (Z : State) (a0 : Array Value) (hw : ∀ d ∈ tables_1, d.before a0 Z = true) (ws : List Jvm.Cond) (p1 : Int32) (p2 : Int32) (h0 : Heap) (n0 : Nat) (Z0 : n0 ≤ h0.size) (hc2 : p1 < p2) :
    MetFree l (⟨"java/lang/Math", "max", "(II)I"⟩ : MethodName) (head1 (Jvm.Cond.code (⟨"java/lang/Math", "max", "(II)I"⟩ : MethodName) jdk_29_method_65_code 2 (some .int) :: ws) ({ frames := 0, cells := 0, slots := 0, locals := 0 } : Room)) (fun a U => a = #[(.int p1), (.int p2)] ∧ Z.Warmed39 U.vm ∧ U.heap = h0) (fun _ _ _ _ _ => True) (fun _ U o U' => ∃ v L, o = .returned v ∧ QP (some (.int p2)) h0 n0 v U'.heap L ∧ FrameEnd U o U' L ({ frames := 0, cells := 0, slots := 0, locals := 0 } : Room).cells ({ frames := 0, cells := 0, slots := 0, locals := 0 } : Room).slots) := by
  refine MetFree.of_bodySF (Jvm.Free.JP.mathPlain rfl (by decide +kernel)) hisR ?_
  intro p e s m args below meth c s₁ Bd hml0 hP hK
  obtain ⟨rfl, hZ, hh⟩ := hP
  have hx := Bd.exec
  have hby := Bd.bytes
  have hml : c.maxLocals = 2 := hml0
  have hown : s.vm.findClass "java/lang/Math" = some m.cls := findClass_of_methodNamed Bd.named
  have hnm := (name_of_methodNamed Bd.named Bd.method).1
  have X0 : Stand p l e ({ frames := 0, cells := 0, slots := 0, locals := 0 } : Room) s m #[(.int p1), (.int p2)] below meth c s₁ [] 0 0 := Stand.of_body Bd
  have e0 : s₁.heap = h0 := by rw [← hh, Bd.state]; rfl
  have N0 := Fr.nil n0
  have pre0 : ∀ t, Steps p.tables e below (s₁.setTop (mkF m 0 #[.val (.int p1), .val (.int p2)] [])) t → Steps p.tables e below (s₁.setTop (entryFrame m #[(.int p1), (.int p2)] 2)) t := fun t k => castTop (ef_2 m p1 p2) k

  obtain ⟨fs, hr, hrun, hended, hW, hsame⟩ := X0.leave (v := some (.int p2)) (fun h => by rw [Bd.returns] at h; cases h)
  refine ⟨_, _, pre0 _ ?_, hrun, hended, _, _, rfl, ?_, ⟨_, rfl⟩, hW, hsame.mono (by decide) (by decide)⟩
  · show Steps p.tables e below (s₁.setTop (mkF m 0 #[.val (.int p1), .val (.int p2)] [])) _
    refine XS.iloadN X0.here hx rfl (hb hby d2_0) rfl ?_
    show Steps p.tables e below (s₁.setTop (mkF m 1 #[.val (.int p1), .val (.int p2)] [(.int p1)])) _
    refine XS.iloadN X0.here hx rfl (hb hby d2_1) rfl ?_
    show Steps p.tables e below (s₁.setTop (mkF m 2 #[.val (.int p1), .val (.int p2)] [(.int p2), (.int p1)])) _
    refine XS.icmpYes X0.here hx rfl (pc0 := 2) (pc' := 9) rfl (hb hby d2_2) rfl (tlt hc2).1 (by decide) (by decide) ?_
    show Steps p.tables e below (s₁.setTop (mkF m 9 #[.val (.int p1), .val (.int p2)] [])) _
    refine XS.iloadN X0.here hx rfl (hb hby d2_9) rfl ?_
    show Steps p.tables e below (s₁.setTop (mkF m 10 #[.val (.int p1), .val (.int p2)] [(.int p2)])) _
    exact retI X0 hx Bd.returns (hb hby d2_10) hr
  · show QP (some (.int p2)) h0 n0 _ s₁.heap _
    rw [e0]
    exact ⟨rfl, N0, rfl⟩
theorem d2_5 : decode jdk_29_method_65_code 5 = .ok (.iload_n 0, 1) := by decide +kernel
theorem d2_6 : decode jdk_29_method_65_code 6 = .ok (.goto 4, 3) := by decide +kernel
set_option maxRecDepth 65536 in
set_option maxHeartbeats 40000000 in
theorem rm2_f (l : Launch) (Z : State) (a0 : Array Value) (hw : ∀ d ∈ tables_1, d.before a0 Z = true) (ws : List Jvm.Cond) (p1 : Int32) (p2 : Int32) (h0 : Heap) (n0 : Nat) (Z0 : n0 ≤ h0.size) (hc2 : ¬ (p1 < p2)) :
    MetFree l (⟨"java/lang/Math", "max", "(II)I"⟩ : MethodName) (head1 (Jvm.Cond.code (⟨"java/lang/Math", "max", "(II)I"⟩ : MethodName) jdk_29_method_65_code 2 (some .int) :: ws) ({ frames := 0, cells := 0, slots := 0, locals := 0 } : Room)) (fun a U => a = #[(.int p1), (.int p2)] ∧ Z.Warmed39 U.vm ∧ U.heap = h0) (fun _ _ _ _ _ => True) (fun _ U o U' => ∃ v L, o = .returned v ∧ QP (some (.int p1)) h0 n0 v U'.heap L ∧ FrameEnd U o U' L ({ frames := 0, cells := 0, slots := 0, locals := 0 } : Room).cells ({ frames := 0, cells := 0, slots := 0, locals := 0 } : Room).slots) := by
  refine MetFree.of_bodySF (Jvm.Free.JP.mathPlain rfl (by decide +kernel)) hisR ?_
  intro p e s m args below meth c s₁ Bd hml0 hP hK
  obtain ⟨rfl, hZ, hh⟩ := hP
  have hx := Bd.exec
  have hby := Bd.bytes
  have hml : c.maxLocals = 2 := hml0
  have hown : s.vm.findClass "java/lang/Math" = some m.cls := findClass_of_methodNamed Bd.named
  have hnm := (name_of_methodNamed Bd.named Bd.method).1
  have X0 : Stand p l e ({ frames := 0, cells := 0, slots := 0, locals := 0 } : Room) s m #[(.int p1), (.int p2)] below meth c s₁ [] 0 0 := Stand.of_body Bd
  have e0 : s₁.heap = h0 := by rw [← hh, Bd.state]; rfl
  have N0 := Fr.nil n0
  have pre0 : ∀ t, Steps p.tables e below (s₁.setTop (mkF m 0 #[.val (.int p1), .val (.int p2)] [])) t → Steps p.tables e below (s₁.setTop (entryFrame m #[(.int p1), (.int p2)] 2)) t := fun t k => castTop (ef_2 m p1 p2) k

  obtain ⟨fs, hr, hrun, hended, hW, hsame⟩ := X0.leave (v := some (.int p1)) (fun h => by rw [Bd.returns] at h; cases h)
  refine ⟨_, _, pre0 _ ?_, hrun, hended, _, _, rfl, ?_, ⟨_, rfl⟩, hW, hsame.mono (by decide) (by decide)⟩
  · show Steps p.tables e below (s₁.setTop (mkF m 0 #[.val (.int p1), .val (.int p2)] [])) _
    refine XS.iloadN X0.here hx rfl (hb hby d2_0) rfl ?_
    show Steps p.tables e below (s₁.setTop (mkF m 1 #[.val (.int p1), .val (.int p2)] [(.int p1)])) _
    refine XS.iloadN X0.here hx rfl (hb hby d2_1) rfl ?_
    show Steps p.tables e below (s₁.setTop (mkF m 2 #[.val (.int p1), .val (.int p2)] [(.int p2), (.int p1)])) _
    refine XS.icmpNo X0.here hx rfl (hb hby d2_2) rfl (flt hc2).1 ?_
    show Steps p.tables e below (s₁.setTop (mkF m 5 #[.val (.int p1), .val (.int p2)] [])) _
    refine XS.iloadN X0.here hx rfl (hb hby d2_5) rfl ?_
    show Steps p.tables e below (s₁.setTop (mkF m 6 #[.val (.int p1), .val (.int p2)] [(.int p1)])) _
    refine XS.goto X0.here hx rfl (pc0 := 6) (pc' := 10) rfl (hb hby d2_6) (by decide) (by decide) ?_
    show Steps p.tables e below (s₁.setTop (mkF m 10 #[.val (.int p1), .val (.int p2)] [(.int p1)])) _
    exact retI X0 hx Bd.returns (hb hby d2_10) hr
  · show QP (some (.int p1)) h0 n0 _ s₁.heap _
    rw [e0]
    exact ⟨rfl, N0, rfl⟩
theorem rm2 (l : Launch) (Z : State) (a0 : Array Value) (hw : ∀ d ∈ tables_1, d.before a0 Z = true) (ws : List Jvm.Cond) (p1 : Int32) (p2 : Int32) (h0 : Heap) (n0 : Nat) (Z0 : n0 ≤ h0.size) :
    MetFree l (⟨"java/lang/Math", "max", "(II)I"⟩ : MethodName) (head1 (Jvm.Cond.code (⟨"java/lang/Math", "max", "(II)I"⟩ : MethodName) jdk_29_method_65_code 2 (some .int) :: ws) ({ frames := 0, cells := 0, slots := 0, locals := 0 } : Room)) (fun a U => a = #[(.int p1), (.int p2)] ∧ Z.Warmed39 U.vm ∧ U.heap = h0) (fun _ _ _ _ _ => True) (fun _ U o U' => ∃ v L, o = .returned v ∧ QP (some (.int (F2 p1 p2))) h0 n0 v U'.heap L ∧ FrameEnd U o U' L ({ frames := 0, cells := 0, slots := 0, locals := 0 } : Room).cells ({ frames := 0, cells := 0, slots := 0, locals := 0 } : Room).slots) := by
  by_cases h2 : p1 < p2
  · rw [show F2 p1 p2 = p2 from if_pos h2]; exact rm2_t l Z a0 hw ws p1 p2 h0 n0 Z0 h2
  · rw [show F2 p1 p2 = p1 from if_neg h2]; exact rm2_f l Z a0 hw ws p1 p2 h0 n0 Z0 h2
theorem d4_0 : decode jdk_37_method_2_code 0 = .ok (.aload_n 0, 1) := by decide +kernel
theorem d4_1 : decode jdk_37_method_2_code 1 = .ok (.getfield 7, 3) := by decide +kernel
theorem d4_4 : decode jdk_37_method_2_code 4 = .ok (.ireturn, 1) := by decide +kernel
theorem pn_4 : plainName "java/lang/Enum" = true := by first | (simp [plainName, overriddenIn]; done) | decide +kernel
theorem ef_4 (m : MethodId) (x0 : Addr) : entryFrame m #[(.ref x0)] 1 = mkF m 0 #[.val (.ref x0)] [] := by first | (simp [entryFrame, mkF, argsToLocals, Value.category]; done) | rfl
set_option maxRecDepth 65536 in
set_option maxHeartbeats 40000000 in
theorem rm4 (l : Launch) (Z : State) (a0 : Array Value) (hw : ∀ d ∈ tables_1, d.before a0 Z = true) (ws : List Jvm.Cond) (a1 : Addr) (w2 : Int32) (h0 : Heap) (n0 : Nat) (Z0 : n0 ≤ h0.size) (F_ordinal_a1 : Fld Z h0 a1 "java/lang/Enum" "ordinal" "I" (.int w2)) :
    MetFree l (⟨"java/lang/Enum", "ordinal", "()I"⟩ : MethodName) (head1 (Jvm.Cond.code (⟨"java/lang/Enum", "ordinal", "()I"⟩ : MethodName) jdk_37_method_2_code 1 (some .int) :: ws) ({ frames := 0, cells := 0, slots := 0, locals := 0 } : Room)) (fun a U => a = #[(.ref a1)] ∧ Z.Warmed39 U.vm ∧ U.heap = h0) (fun _ _ _ _ _ => True) (fun _ U o U' => ∃ v L, o = .returned v ∧ QP (some (.int w2)) h0 n0 v U'.heap L ∧ FrameEnd U o U' L ({ frames := 0, cells := 0, slots := 0, locals := 0 } : Room).cells ({ frames := 0, cells := 0, slots := 0, locals := 0 } : Room).slots) := by
  refine MetFree.of_bodySF (plainFor_of_name pn_4) hisR ?_
  intro p e s m args below meth c s₁ Bd hml0 hP hK
  obtain ⟨rfl, hZ, hh⟩ := hP
  have hx := Bd.exec
  have hby := Bd.bytes
  have hml : c.maxLocals = 1 := hml0
  have hown : s.vm.findClass "java/lang/Enum" = some m.cls := findClass_of_methodNamed Bd.named
  have hnm := (name_of_methodNamed Bd.named Bd.method).1
  have X0 : Stand p l e ({ frames := 0, cells := 0, slots := 0, locals := 0 } : Room) s m #[(.ref a1)] below meth c s₁ [] 0 0 := Stand.of_body Bd
  have e0 : s₁.heap = h0 := by rw [← hh, Bd.state]; rfl
  have N0 := Fr.nil n0
  have pre0 : ∀ t, Steps p.tables e below (s₁.setTop (mkF m 0 #[.val (.ref a1)] [])) t → Steps p.tables e below (s₁.setTop (entryFrame m #[(.ref a1)] 1)) t := fun t k => castTop (ef_4 m a1) k
  obtain ⟨T3, X3, e3, st3⟩ := getF X0 hx hZ hown (host := "") (Or.inl (hw _ (List.mem_of_getElem? (i := 25) rfl))) Via.refl e0 F_ordinal_a1 (g := (mkF m 1 #[.val (.ref a1)] [(.ref a1)])) rfl rfl (hb hby d4_1)
  obtain ⟨fs, hr, hrun, hended, hW, hsame⟩ := X3.leave (v := some (.int w2)) (fun h => by rw [Bd.returns] at h; cases h)
  refine ⟨_, _, pre0 _ ?_, hrun, hended, _, _, rfl, ?_, ⟨_, rfl⟩, hW, hsame.mono (by decide) (by decide)⟩
  · show Steps p.tables e below (s₁.setTop (mkF m 0 #[.val (.ref a1)] [])) _
    refine XS.aloadN X0.here hx rfl (hb hby d4_0) rfl rfl ?_
    show Steps p.tables e below (s₁.setTop (mkF m 1 #[.val (.ref a1)] [(.ref a1)])) _
    refine st3 _ ?_
    show Steps p.tables e below (T3.setTop (mkF m 4 #[.val (.ref a1)] [(.int w2)])) _
    exact retI X3 hx Bd.returns (hb hby d4_4) hr
  · show QP (some (.int w2)) h0 n0 _ T3.heap _
    rw [e3]
    exact ⟨rfl, N0, rfl⟩
theorem d5_0 : decode prog_6_method_6_code 0 = .ok (.dconst 0, 1) := by decide +kernel
theorem d5_1 : decode prog_6_method_6_code 1 = .ok (.dstore_n 2, 1) := by decide +kernel
theorem d5_2 : decode prog_6_method_6_code 2 = .ok (.iconst 0, 1) := by decide +kernel
theorem d5_3 : decode prog_6_method_6_code 3 = .ok (.istore 4, 2) := by decide +kernel
theorem d5_5 : decode prog_6_method_6_code 5 = .ok (.iload 4, 2) := by decide +kernel
theorem d5_7 : decode prog_6_method_6_code 7 = .ok (.aload_n 0, 1) := by decide +kernel
theorem d5_8 : decode prog_6_method_6_code 8 = .ok (.arraylength, 1) := by decide +kernel
theorem d5_9 : decode prog_6_method_6_code 9 = .ok (.if_icmp .ge 23, 3) := by decide +kernel
theorem d5_32 : decode prog_6_method_6_code 32 = .ok (.dload_n 2, 1) := by decide +kernel
theorem d5_33 : decode prog_6_method_6_code 33 = .ok (.iload_n 1, 1) := by decide +kernel
theorem d5_34 : decode prog_6_method_6_code 34 = .ok (.i2d, 1) := by decide +kernel
theorem d5_35 : decode prog_6_method_6_code 35 = .ok (.ddiv, 1) := by decide +kernel
theorem d5_36 : decode prog_6_method_6_code 36 = .ok (.dreturn, 1) := by decide +kernel
theorem pn_5 : plainName "com/example/pesquisa/pesquisa/Measure" = true := by first | (simp [plainName, overriddenIn]; done) | decide +kernel
theorem ef_5 (m : MethodId) (x0 : Addr) (x1 : Int32) : entryFrame m #[(.ref x0), (.int x1)] 5 = mkF m 0 #[.val (.ref x0), .val (.int x1), .unset, .unset, .unset] [] := by first | (simp [entryFrame, mkF, argsToLocals, Value.category]; done) | rfl
set_option maxRecDepth 65536 in
set_option maxHeartbeats 40000000 in
theorem rm5_0 (l : Launch) (Z : State) (a0 : Array Value) (hw : ∀ d ∈ tables_1, d.before a0 Z = true) (ws : List Jvm.Cond) (a1 : Addr) (p2 : Int32) (cl_a1 : Cell) (r35 : UInt64) (h0 : Heap) (n0 : Nat) (Z0 : n0 ≤ h0.size) (Ar_a1 : Arr Z h0 a1 cl_a1 .int) (S_a1 : cl_a1.slots.size = (0 : Int32).toNatClampNeg) (N_a1 : ¬ (0 : Int32) < 0) (hv35 : (FP.ddiv FP.dconst0 (FP.i2d p2)) = r35) (hn35 : Jvm.Free.Fl.NoNaN64 (FP.ddiv FP.dconst0 (FP.i2d p2))) :
    MetFree l (⟨"com/example/pesquisa/pesquisa/Measure", "averagePrecision", "([II)D"⟩ : MethodName) (head1 (Jvm.Cond.code (⟨"com/example/pesquisa/pesquisa/Measure", "averagePrecision", "([II)D"⟩ : MethodName) prog_6_method_6_code 5 (some .double) :: ws) ({ frames := 0, cells := 0, slots := 0, locals := 0 } : Room)) (fun a U => a = #[(.ref a1), (.int p2)] ∧ Z.Warmed39 U.vm ∧ U.heap = h0) (fun _ _ _ _ _ => True) (fun _ U o U' => ∃ v L, o = .returned v ∧ QP (some (.double r35)) h0 n0 v U'.heap L ∧ FrameEnd U o U' L ({ frames := 0, cells := 0, slots := 0, locals := 0 } : Room).cells ({ frames := 0, cells := 0, slots := 0, locals := 0 } : Room).slots) := by
  refine MetFree.of_bodySF (plainFor_of_name pn_5) hisR ?_
  intro p e s m args below meth c s₁ Bd hml0 hP hK
  obtain ⟨rfl, hZ, hh⟩ := hP
  have hx := Bd.exec
  have hby := Bd.bytes
  have hml : c.maxLocals = 5 := hml0
  have hown : s.vm.findClass "com/example/pesquisa/pesquisa/Measure" = some m.cls := findClass_of_methodNamed Bd.named
  have hnm := (name_of_methodNamed Bd.named Bd.method).1
  have X0 : Stand p l e ({ frames := 0, cells := 0, slots := 0, locals := 0 } : Room) s m #[(.ref a1), (.int p2)] below meth c s₁ [] 0 0 := Stand.of_body Bd
  have e0 : s₁.heap = h0 := by rw [← hh, Bd.state]; rfl
  have N0 := Fr.nil n0
  have pre0 : ∀ t, Steps p.tables e below (s₁.setTop (mkF m 0 #[.val (.ref a1), .val (.int p2), .unset, .unset, .unset] [])) t → Steps p.tables e below (s₁.setTop (entryFrame m #[(.ref a1), (.int p2)] 5)) t := fun t k => castTop (ef_5 m a1 p2) k

  obtain ⟨fs, hr, hrun, hended, hW, hsame⟩ := X0.leave (v := some (.double r35)) (fun h => by rw [Bd.returns] at h; cases h)
  refine ⟨_, _, pre0 _ ?_, hrun, hended, _, _, rfl, ?_, ⟨_, rfl⟩, hW, hsame.mono (by decide) (by decide)⟩
  · show Steps p.tables e below (s₁.setTop (mkF m 0 #[.val (.ref a1), .val (.int p2), .unset, .unset, .unset] [])) _
    refine XS.dconst0 X0.here hx rfl (hb hby d5_0) rfl ?_
    show Steps p.tables e below (s₁.setTop (mkF m 1 #[.val (.ref a1), .val (.int p2), .unset, .unset, .unset] [(.double FP.dconst0)])) _
    refine XS.dstoreN X0.here hx rfl (hb hby d5_1) rfl (l' := #[.val (.ref a1), .val (.int p2), .val (.double FP.dconst0), .second, .unset]) rfl ?_
    show Steps p.tables e below (s₁.setTop (mkF m 2 #[.val (.ref a1), .val (.int p2), .val (.double FP.dconst0), .second, .unset] [])) _
    refine XS.iconst X0.here hx rfl (hb hby d5_2) ?_
    show Steps p.tables e below (s₁.setTop (mkF m 3 #[.val (.ref a1), .val (.int p2), .val (.double FP.dconst0), .second, .unset] [(.int (0 : Int32))])) _
    refine XS.istore X0.here hx rfl (hb hby d5_3) rfl (l' := #[.val (.ref a1), .val (.int p2), .val (.double FP.dconst0), .second, .val (.int (0 : Int32))]) rfl ?_
    show Steps p.tables e below (s₁.setTop (mkF m 5 #[.val (.ref a1), .val (.int p2), .val (.double FP.dconst0), .second, .val (.int (0 : Int32))] [])) _
    refine XS.iload X0.here hx rfl (hb hby d5_5) rfl ?_
    show Steps p.tables e below (s₁.setTop (mkF m 7 #[.val (.ref a1), .val (.int p2), .val (.double FP.dconst0), .second, .val (.int (0 : Int32))] [(.int (0 : Int32))])) _
    refine XS.aloadN X0.here hx rfl (hb hby d5_7) rfl rfl ?_
    show Steps p.tables e below (s₁.setTop (mkF m 8 #[.val (.ref a1), .val (.int p2), .val (.double FP.dconst0), .second, .val (.int (0 : Int32))] [(.ref a1), (.int (0 : Int32))])) _
    refine X0.arraylength hx (by rw [e0]; exact Ar_a1.1) (State.isArrayOf_alike hZ.alike Ar_a1.2.1) (g := (mkF m 8 #[.val (.ref a1), .val (.int p2), .val (.double FP.dconst0), .second, .val (.int (0 : Int32))] [(.ref a1), (.int (0 : Int32))])) rfl rfl (hb hby d5_8) _ ?_
    rw [len_of S_a1 N_a1]
    show Steps p.tables e below (s₁.setTop (mkF m 9 #[.val (.ref a1), .val (.int p2), .val (.double FP.dconst0), .second, .val (.int (0 : Int32))] [(.int (0 : Int32)), (.int (0 : Int32))])) _
    refine XS.icmpYes X0.here hx rfl (pc0 := 9) (pc' := 32) rfl (hb hby d5_9) rfl (flt (by decide : ¬ ((0 : Int32) < (0 : Int32)))).2.1 (by decide) (by decide) ?_
    show Steps p.tables e below (s₁.setTop (mkF m 32 #[.val (.ref a1), .val (.int p2), .val (.double FP.dconst0), .second, .val (.int (0 : Int32))] [])) _
    refine XS.dloadN X0.here hx rfl (hb hby d5_32) rfl ?_
    show Steps p.tables e below (s₁.setTop (mkF m 33 #[.val (.ref a1), .val (.int p2), .val (.double FP.dconst0), .second, .val (.int (0 : Int32))] [(.double FP.dconst0)])) _
    refine XS.iloadN X0.here hx rfl (hb hby d5_33) rfl ?_
    show Steps p.tables e below (s₁.setTop (mkF m 34 #[.val (.ref a1), .val (.int p2), .val (.double FP.dconst0), .second, .val (.int (0 : Int32))] [(.int p2), (.double FP.dconst0)])) _
    refine XS.i2dS X0.here hx rfl (hb hby d5_34) rfl rfl ?_
    show Steps p.tables e below (s₁.setTop (mkF m 35 #[.val (.ref a1), .val (.int p2), .val (.double FP.dconst0), .second, .val (.int (0 : Int32))] [(.double (FP.i2d p2)), (.double FP.dconst0)])) _
    refine XS.ddivS X0.here hx rfl (hb hby d5_35) rfl hn35 hv35 ?_
    show Steps p.tables e below (s₁.setTop (mkF m 36 #[.val (.ref a1), .val (.int p2), .val (.double FP.dconst0), .second, .val (.int (0 : Int32))] [(.double r35)])) _
    exact retOut X0 hx Bd.returns rfl (Or.inr (Or.inr (Or.inl ⟨rfl, rfl, _, rfl⟩))) (hb hby d5_36) hr
  · show QP (some (.double r35)) h0 n0 _ s₁.heap _
    rw [e0]
    exact ⟨rfl, N0, rfl⟩
theorem d6_0 : decode prog_6_method_7_code 0 = .ok (.iconst 0, 1) := by decide +kernel
theorem d6_1 : decode prog_6_method_7_code 1 = .ok (.istore_n 2, 1) := by decide +kernel
theorem d6_2 : decode prog_6_method_7_code 2 = .ok (.iload_n 2, 1) := by decide +kernel
theorem d6_3 : decode prog_6_method_7_code 3 = .ok (.aload_n 0, 1) := by decide +kernel
theorem d6_4 : decode prog_6_method_7_code 4 = .ok (.arraylength, 1) := by decide +kernel
theorem d6_5 : decode prog_6_method_7_code 5 = .ok (.if_icmp .ge 16, 3) := by decide +kernel
theorem d6_21 : decode prog_6_method_7_code 21 = .ok (.iload_n 2, 1) := by decide +kernel
theorem d6_22 : decode prog_6_method_7_code 22 = .ok (.ireturn, 1) := by decide +kernel
theorem pn_6 : plainName "com/example/pesquisa/pesquisa/Measure" = true := by first | (simp [plainName, overriddenIn]; done) | decide +kernel
theorem ef_6 (m : MethodId) (x0 : Addr) (x1 : Int32) : entryFrame m #[(.ref x0), (.int x1)] 3 = mkF m 0 #[.val (.ref x0), .val (.int x1), .unset] [] := by first | (simp [entryFrame, mkF, argsToLocals, Value.category]; done) | rfl
set_option maxRecDepth 65536 in
set_option maxHeartbeats 40000000 in
theorem rm6_0 (l : Launch) (Z : State) (a0 : Array Value) (hw : ∀ d ∈ tables_1, d.before a0 Z = true) (ws : List Jvm.Cond) (a1 : Addr) (p2 : Int32) (cl_a1 : Cell) (h0 : Heap) (n0 : Nat) (Z0 : n0 ≤ h0.size) (Ar_a1 : Arr Z h0 a1 cl_a1 .int) (S_a1 : cl_a1.slots.size = (0 : Int32).toNatClampNeg) (N_a1 : ¬ (0 : Int32) < 0) :
    MetFree l (⟨"com/example/pesquisa/pesquisa/Measure", "foundBy", "([II)I"⟩ : MethodName) (head1 (Jvm.Cond.code (⟨"com/example/pesquisa/pesquisa/Measure", "foundBy", "([II)I"⟩ : MethodName) prog_6_method_7_code 3 (some .int) :: ws) ({ frames := 0, cells := 0, slots := 0, locals := 0 } : Room)) (fun a U => a = #[(.ref a1), (.int p2)] ∧ Z.Warmed39 U.vm ∧ U.heap = h0) (fun _ _ _ _ _ => True) (fun _ U o U' => ∃ v L, o = .returned v ∧ QP (some (.int (0 : Int32))) h0 n0 v U'.heap L ∧ FrameEnd U o U' L ({ frames := 0, cells := 0, slots := 0, locals := 0 } : Room).cells ({ frames := 0, cells := 0, slots := 0, locals := 0 } : Room).slots) := by
  refine MetFree.of_bodySF (plainFor_of_name pn_6) hisR ?_
  intro p e s m args below meth c s₁ Bd hml0 hP hK
  obtain ⟨rfl, hZ, hh⟩ := hP
  have hx := Bd.exec
  have hby := Bd.bytes
  have hml : c.maxLocals = 3 := hml0
  have hown : s.vm.findClass "com/example/pesquisa/pesquisa/Measure" = some m.cls := findClass_of_methodNamed Bd.named
  have hnm := (name_of_methodNamed Bd.named Bd.method).1
  have X0 : Stand p l e ({ frames := 0, cells := 0, slots := 0, locals := 0 } : Room) s m #[(.ref a1), (.int p2)] below meth c s₁ [] 0 0 := Stand.of_body Bd
  have e0 : s₁.heap = h0 := by rw [← hh, Bd.state]; rfl
  have N0 := Fr.nil n0
  have pre0 : ∀ t, Steps p.tables e below (s₁.setTop (mkF m 0 #[.val (.ref a1), .val (.int p2), .unset] [])) t → Steps p.tables e below (s₁.setTop (entryFrame m #[(.ref a1), (.int p2)] 3)) t := fun t k => castTop (ef_6 m a1 p2) k

  obtain ⟨fs, hr, hrun, hended, hW, hsame⟩ := X0.leave (v := some (.int (0 : Int32))) (fun h => by rw [Bd.returns] at h; cases h)
  refine ⟨_, _, pre0 _ ?_, hrun, hended, _, _, rfl, ?_, ⟨_, rfl⟩, hW, hsame.mono (by decide) (by decide)⟩
  · show Steps p.tables e below (s₁.setTop (mkF m 0 #[.val (.ref a1), .val (.int p2), .unset] [])) _
    refine XS.iconst X0.here hx rfl (hb hby d6_0) ?_
    show Steps p.tables e below (s₁.setTop (mkF m 1 #[.val (.ref a1), .val (.int p2), .unset] [(.int (0 : Int32))])) _
    refine XS.istoreN X0.here hx rfl (hb hby d6_1) rfl (l' := #[.val (.ref a1), .val (.int p2), .val (.int (0 : Int32))]) rfl ?_
    show Steps p.tables e below (s₁.setTop (mkF m 2 #[.val (.ref a1), .val (.int p2), .val (.int (0 : Int32))] [])) _
    refine XS.iloadN X0.here hx rfl (hb hby d6_2) rfl ?_
    show Steps p.tables e below (s₁.setTop (mkF m 3 #[.val (.ref a1), .val (.int p2), .val (.int (0 : Int32))] [(.int (0 : Int32))])) _
    refine XS.aloadN X0.here hx rfl (hb hby d6_3) rfl rfl ?_
    show Steps p.tables e below (s₁.setTop (mkF m 4 #[.val (.ref a1), .val (.int p2), .val (.int (0 : Int32))] [(.ref a1), (.int (0 : Int32))])) _
    refine X0.arraylength hx (by rw [e0]; exact Ar_a1.1) (State.isArrayOf_alike hZ.alike Ar_a1.2.1) (g := (mkF m 4 #[.val (.ref a1), .val (.int p2), .val (.int (0 : Int32))] [(.ref a1), (.int (0 : Int32))])) rfl rfl (hb hby d6_4) _ ?_
    rw [len_of S_a1 N_a1]
    show Steps p.tables e below (s₁.setTop (mkF m 5 #[.val (.ref a1), .val (.int p2), .val (.int (0 : Int32))] [(.int (0 : Int32)), (.int (0 : Int32))])) _
    refine XS.icmpYes X0.here hx rfl (pc0 := 5) (pc' := 21) rfl (hb hby d6_5) rfl (flt (by decide : ¬ ((0 : Int32) < (0 : Int32)))).2.1 (by decide) (by decide) ?_
    show Steps p.tables e below (s₁.setTop (mkF m 21 #[.val (.ref a1), .val (.int p2), .val (.int (0 : Int32))] [])) _
    refine XS.iloadN X0.here hx rfl (hb hby d6_21) rfl ?_
    show Steps p.tables e below (s₁.setTop (mkF m 22 #[.val (.ref a1), .val (.int p2), .val (.int (0 : Int32))] [(.int (0 : Int32))])) _
    exact retI X0 hx Bd.returns (hb hby d6_22) hr
  · show QP (some (.int (0 : Int32))) h0 n0 _ s₁.heap _
    rw [e0]
    exact ⟨rfl, N0, rfl⟩
theorem d5_12 : decode prog_6_method_6_code 12 = .ok (.dload_n 2, 1) := by decide +kernel
theorem d5_13 : decode prog_6_method_6_code 13 = .ok (.iload 4, 2) := by decide +kernel
theorem d5_15 : decode prog_6_method_6_code 15 = .ok (.iconst 1, 1) := by decide +kernel
theorem d5_16 : decode prog_6_method_6_code 16 = .ok (.iadd, 1) := by decide +kernel
theorem d5_17 : decode prog_6_method_6_code 17 = .ok (.i2d, 1) := by decide +kernel
theorem d5_18 : decode prog_6_method_6_code 18 = .ok (.aload_n 0, 1) := by decide +kernel
theorem d5_19 : decode prog_6_method_6_code 19 = .ok (.iload 4, 2) := by decide +kernel
theorem d5_21 : decode prog_6_method_6_code 21 = .ok (.iaload, 1) := by decide +kernel
theorem d5_22 : decode prog_6_method_6_code 22 = .ok (.i2d, 1) := by decide +kernel
theorem d5_23 : decode prog_6_method_6_code 23 = .ok (.ddiv, 1) := by decide +kernel
theorem d5_24 : decode prog_6_method_6_code 24 = .ok (.dadd, 1) := by decide +kernel
theorem d5_25 : decode prog_6_method_6_code 25 = .ok (.dstore_n 2, 1) := by decide +kernel
theorem d5_26 : decode prog_6_method_6_code 26 = .ok (.iinc 4 1, 3) := by decide +kernel
theorem d5_29 : decode prog_6_method_6_code 29 = .ok (.goto (-24), 3) := by decide +kernel
set_option maxRecDepth 65536 in
set_option maxHeartbeats 40000000 in
theorem rm5_1 (l : Launch) (Z : State) (a0 : Array Value) (hw : ∀ d ∈ tables_1, d.before a0 Z = true) (ws : List Jvm.Cond) (a1 : Addr) (p2 : Int32) (cl_a1 : Cell) (w3 : Int32) (r23 : UInt64) (r24 : UInt64) (r35 : UInt64) (h0 : Heap) (n0 : Nat) (Z0 : n0 ≤ h0.size) (Ar_a1 : Arr Z h0 a1 cl_a1 .int) (S_a1 : cl_a1.slots.size = (1 : Int32).toNatClampNeg) (N_a1 : ¬ (1 : Int32) < 0) (hin21 : ¬ ((0 : Int32) < 0 ∨ cl_a1.slots.size ≤ ((0 : Int32)).toNatClampNeg)) (hat21 : cl_a1.slots[((0 : Int32)).toNatClampNeg]? = some (.int w3)) (hv23 : (FP.ddiv (FP.i2d (1 : Int32)) (FP.i2d w3)) = r23) (hn23 : Jvm.Free.Fl.NoNaN64 (FP.ddiv (FP.i2d (1 : Int32)) (FP.i2d w3))) (hv24 : (FP.dadd FP.dconst0 r23) = r24) (hn24 : Jvm.Free.Fl.NoNaN64 (FP.dadd FP.dconst0 r23)) (hv35 : (FP.ddiv r24 (FP.i2d p2)) = r35) (hn35 : Jvm.Free.Fl.NoNaN64 (FP.ddiv r24 (FP.i2d p2))) :
    MetFree l (⟨"com/example/pesquisa/pesquisa/Measure", "averagePrecision", "([II)D"⟩ : MethodName) (head1 (Jvm.Cond.code (⟨"com/example/pesquisa/pesquisa/Measure", "averagePrecision", "([II)D"⟩ : MethodName) prog_6_method_6_code 5 (some .double) :: ws) ({ frames := 0, cells := 0, slots := 0, locals := 0 } : Room)) (fun a U => a = #[(.ref a1), (.int p2)] ∧ Z.Warmed39 U.vm ∧ U.heap = h0) (fun _ _ _ _ _ => True) (fun _ U o U' => ∃ v L, o = .returned v ∧ QP (some (.double r35)) h0 n0 v U'.heap L ∧ FrameEnd U o U' L ({ frames := 0, cells := 0, slots := 0, locals := 0 } : Room).cells ({ frames := 0, cells := 0, slots := 0, locals := 0 } : Room).slots) := by
  refine MetFree.of_bodySF (plainFor_of_name pn_5) hisR ?_
  intro p e s m args below meth c s₁ Bd hml0 hP hK
  obtain ⟨rfl, hZ, hh⟩ := hP
  have hx := Bd.exec
  have hby := Bd.bytes
  have hml : c.maxLocals = 5 := hml0
  have hown : s.vm.findClass "com/example/pesquisa/pesquisa/Measure" = some m.cls := findClass_of_methodNamed Bd.named
  have hnm := (name_of_methodNamed Bd.named Bd.method).1
  have X0 : Stand p l e ({ frames := 0, cells := 0, slots := 0, locals := 0 } : Room) s m #[(.ref a1), (.int p2)] below meth c s₁ [] 0 0 := Stand.of_body Bd
  have e0 : s₁.heap = h0 := by rw [← hh, Bd.state]; rfl
  have N0 := Fr.nil n0
  have pre0 : ∀ t, Steps p.tables e below (s₁.setTop (mkF m 0 #[.val (.ref a1), .val (.int p2), .unset, .unset, .unset] [])) t → Steps p.tables e below (s₁.setTop (entryFrame m #[(.ref a1), (.int p2)] 5)) t := fun t k => castTop (ef_5 m a1 p2) k

  obtain ⟨fs, hr, hrun, hended, hW, hsame⟩ := X0.leave (v := some (.double r35)) (fun h => by rw [Bd.returns] at h; cases h)
  refine ⟨_, _, pre0 _ ?_, hrun, hended, _, _, rfl, ?_, ⟨_, rfl⟩, hW, hsame.mono (by decide) (by decide)⟩
  · show Steps p.tables e below (s₁.setTop (mkF m 0 #[.val (.ref a1), .val (.int p2), .unset, .unset, .unset] [])) _
    refine XS.dconst0 X0.here hx rfl (hb hby d5_0) rfl ?_
    show Steps p.tables e below (s₁.setTop (mkF m 1 #[.val (.ref a1), .val (.int p2), .unset, .unset, .unset] [(.double FP.dconst0)])) _
    refine XS.dstoreN X0.here hx rfl (hb hby d5_1) rfl (l' := #[.val (.ref a1), .val (.int p2), .val (.double FP.dconst0), .second, .unset]) rfl ?_
    show Steps p.tables e below (s₁.setTop (mkF m 2 #[.val (.ref a1), .val (.int p2), .val (.double FP.dconst0), .second, .unset] [])) _
    refine XS.iconst X0.here hx rfl (hb hby d5_2) ?_
    show Steps p.tables e below (s₁.setTop (mkF m 3 #[.val (.ref a1), .val (.int p2), .val (.double FP.dconst0), .second, .unset] [(.int (0 : Int32))])) _
    refine XS.istore X0.here hx rfl (hb hby d5_3) rfl (l' := #[.val (.ref a1), .val (.int p2), .val (.double FP.dconst0), .second, .val (.int (0 : Int32))]) rfl ?_
    show Steps p.tables e below (s₁.setTop (mkF m 5 #[.val (.ref a1), .val (.int p2), .val (.double FP.dconst0), .second, .val (.int (0 : Int32))] [])) _
    refine XS.iload X0.here hx rfl (hb hby d5_5) rfl ?_
    show Steps p.tables e below (s₁.setTop (mkF m 7 #[.val (.ref a1), .val (.int p2), .val (.double FP.dconst0), .second, .val (.int (0 : Int32))] [(.int (0 : Int32))])) _
    refine XS.aloadN X0.here hx rfl (hb hby d5_7) rfl rfl ?_
    show Steps p.tables e below (s₁.setTop (mkF m 8 #[.val (.ref a1), .val (.int p2), .val (.double FP.dconst0), .second, .val (.int (0 : Int32))] [(.ref a1), (.int (0 : Int32))])) _
    refine X0.arraylength hx (by rw [e0]; exact Ar_a1.1) (State.isArrayOf_alike hZ.alike Ar_a1.2.1) (g := (mkF m 8 #[.val (.ref a1), .val (.int p2), .val (.double FP.dconst0), .second, .val (.int (0 : Int32))] [(.ref a1), (.int (0 : Int32))])) rfl rfl (hb hby d5_8) _ ?_
    rw [len_of S_a1 N_a1]
    show Steps p.tables e below (s₁.setTop (mkF m 9 #[.val (.ref a1), .val (.int p2), .val (.double FP.dconst0), .second, .val (.int (0 : Int32))] [(.int (1 : Int32)), (.int (0 : Int32))])) _
    refine XS.icmpNo X0.here hx rfl (hb hby d5_9) rfl (tlt (by decide : (0 : Int32) < (1 : Int32))).2.1 ?_
    show Steps p.tables e below (s₁.setTop (mkF m 12 #[.val (.ref a1), .val (.int p2), .val (.double FP.dconst0), .second, .val (.int (0 : Int32))] [])) _
    refine XS.dloadN X0.here hx rfl (hb hby d5_12) rfl ?_
    show Steps p.tables e below (s₁.setTop (mkF m 13 #[.val (.ref a1), .val (.int p2), .val (.double FP.dconst0), .second, .val (.int (0 : Int32))] [(.double FP.dconst0)])) _
    refine XS.iload X0.here hx rfl (hb hby d5_13) rfl ?_
    show Steps p.tables e below (s₁.setTop (mkF m 15 #[.val (.ref a1), .val (.int p2), .val (.double FP.dconst0), .second, .val (.int (0 : Int32))] [(.int (0 : Int32)), (.double FP.dconst0)])) _
    refine XS.iconst X0.here hx rfl (hb hby d5_15) ?_
    show Steps p.tables e below (s₁.setTop (mkF m 16 #[.val (.ref a1), .val (.int p2), .val (.double FP.dconst0), .second, .val (.int (0 : Int32))] [(.int (1 : Int32)), (.int (0 : Int32)), (.double FP.dconst0)])) _
    refine XS.iadd X0.here hx rfl (hb hby d5_16) rfl ?_
    show Steps p.tables e below (s₁.setTop (mkF m 17 #[.val (.ref a1), .val (.int p2), .val (.double FP.dconst0), .second, .val (.int (0 : Int32))] [(.int (1 : Int32)), (.double FP.dconst0)])) _
    refine XS.i2dS X0.here hx rfl (hb hby d5_17) rfl rfl ?_
    show Steps p.tables e below (s₁.setTop (mkF m 18 #[.val (.ref a1), .val (.int p2), .val (.double FP.dconst0), .second, .val (.int (0 : Int32))] [(.double (FP.i2d (1 : Int32))), (.double FP.dconst0)])) _
    refine XS.aloadN X0.here hx rfl (hb hby d5_18) rfl rfl ?_
    show Steps p.tables e below (s₁.setTop (mkF m 19 #[.val (.ref a1), .val (.int p2), .val (.double FP.dconst0), .second, .val (.int (0 : Int32))] [(.ref a1), (.double (FP.i2d (1 : Int32))), (.double FP.dconst0)])) _
    refine XS.iload X0.here hx rfl (hb hby d5_19) rfl ?_
    show Steps p.tables e below (s₁.setTop (mkF m 21 #[.val (.ref a1), .val (.int p2), .val (.double FP.dconst0), .second, .val (.int (0 : Int32))] [(.int (0 : Int32)), (.ref a1), (.double (FP.i2d (1 : Int32))), (.double FP.dconst0)])) _
    refine X0.iaload hx (j := (0 : Int32)) (v := (.int w3)) (by rw [e0]; exact Ar_a1.1) (State.isArrayOf_alike hZ.alike Ar_a1.2.1) Ar_a1.2.2 hin21 hat21 (g := (mkF m 21 #[.val (.ref a1), .val (.int p2), .val (.double FP.dconst0), .second, .val (.int (0 : Int32))] [(.int (0 : Int32)), (.ref a1), (.double (FP.i2d (1 : Int32))), (.double FP.dconst0)])) rfl rfl (hb hby d5_21) _ ?_
    show Steps p.tables e below (s₁.setTop (mkF m 22 #[.val (.ref a1), .val (.int p2), .val (.double FP.dconst0), .second, .val (.int (0 : Int32))] [(.int w3), (.double (FP.i2d (1 : Int32))), (.double FP.dconst0)])) _
    refine XS.i2dS X0.here hx rfl (hb hby d5_22) rfl rfl ?_
    show Steps p.tables e below (s₁.setTop (mkF m 23 #[.val (.ref a1), .val (.int p2), .val (.double FP.dconst0), .second, .val (.int (0 : Int32))] [(.double (FP.i2d w3)), (.double (FP.i2d (1 : Int32))), (.double FP.dconst0)])) _
    refine XS.ddivS X0.here hx rfl (hb hby d5_23) rfl hn23 hv23 ?_
    show Steps p.tables e below (s₁.setTop (mkF m 24 #[.val (.ref a1), .val (.int p2), .val (.double FP.dconst0), .second, .val (.int (0 : Int32))] [(.double r23), (.double FP.dconst0)])) _
    refine XS.daddS X0.here hx rfl (hb hby d5_24) rfl hn24 hv24 ?_
    show Steps p.tables e below (s₁.setTop (mkF m 25 #[.val (.ref a1), .val (.int p2), .val (.double FP.dconst0), .second, .val (.int (0 : Int32))] [(.double r24)])) _
    refine XS.dstoreN X0.here hx rfl (hb hby d5_25) rfl (l' := #[.val (.ref a1), .val (.int p2), .val (.double r24), .second, .val (.int (0 : Int32))]) rfl ?_
    show Steps p.tables e below (s₁.setTop (mkF m 26 #[.val (.ref a1), .val (.int p2), .val (.double r24), .second, .val (.int (0 : Int32))] [])) _
    refine XS.iinc X0.here hx rfl (hb hby d5_26) rfl (l' := #[.val (.ref a1), .val (.int p2), .val (.double r24), .second, .val (.int (1 : Int32))]) rfl ?_
    show Steps p.tables e below (s₁.setTop (mkF m 29 #[.val (.ref a1), .val (.int p2), .val (.double r24), .second, .val (.int (1 : Int32))] [])) _
    refine XS.goto X0.here hx rfl (pc0 := 29) (pc' := 5) rfl (hb hby d5_29) (by decide) (by decide) ?_
    show Steps p.tables e below (s₁.setTop (mkF m 5 #[.val (.ref a1), .val (.int p2), .val (.double r24), .second, .val (.int (1 : Int32))] [])) _
    refine XS.iload X0.here hx rfl (hb hby d5_5) rfl ?_
    show Steps p.tables e below (s₁.setTop (mkF m 7 #[.val (.ref a1), .val (.int p2), .val (.double r24), .second, .val (.int (1 : Int32))] [(.int (1 : Int32))])) _
    refine XS.aloadN X0.here hx rfl (hb hby d5_7) rfl rfl ?_
    show Steps p.tables e below (s₁.setTop (mkF m 8 #[.val (.ref a1), .val (.int p2), .val (.double r24), .second, .val (.int (1 : Int32))] [(.ref a1), (.int (1 : Int32))])) _
    refine X0.arraylength hx (by rw [e0]; exact Ar_a1.1) (State.isArrayOf_alike hZ.alike Ar_a1.2.1) (g := (mkF m 8 #[.val (.ref a1), .val (.int p2), .val (.double r24), .second, .val (.int (1 : Int32))] [(.ref a1), (.int (1 : Int32))])) rfl rfl (hb hby d5_8) _ ?_
    rw [len_of S_a1 N_a1]
    show Steps p.tables e below (s₁.setTop (mkF m 9 #[.val (.ref a1), .val (.int p2), .val (.double r24), .second, .val (.int (1 : Int32))] [(.int (1 : Int32)), (.int (1 : Int32))])) _
    refine XS.icmpYes X0.here hx rfl (pc0 := 9) (pc' := 32) rfl (hb hby d5_9) rfl (flt (by decide : ¬ ((1 : Int32) < (1 : Int32)))).2.1 (by decide) (by decide) ?_
    show Steps p.tables e below (s₁.setTop (mkF m 32 #[.val (.ref a1), .val (.int p2), .val (.double r24), .second, .val (.int (1 : Int32))] [])) _
    refine XS.dloadN X0.here hx rfl (hb hby d5_32) rfl ?_
    show Steps p.tables e below (s₁.setTop (mkF m 33 #[.val (.ref a1), .val (.int p2), .val (.double r24), .second, .val (.int (1 : Int32))] [(.double r24)])) _
    refine XS.iloadN X0.here hx rfl (hb hby d5_33) rfl ?_
    show Steps p.tables e below (s₁.setTop (mkF m 34 #[.val (.ref a1), .val (.int p2), .val (.double r24), .second, .val (.int (1 : Int32))] [(.int p2), (.double r24)])) _
    refine XS.i2dS X0.here hx rfl (hb hby d5_34) rfl rfl ?_
    show Steps p.tables e below (s₁.setTop (mkF m 35 #[.val (.ref a1), .val (.int p2), .val (.double r24), .second, .val (.int (1 : Int32))] [(.double (FP.i2d p2)), (.double r24)])) _
    refine XS.ddivS X0.here hx rfl (hb hby d5_35) rfl hn35 hv35 ?_
    show Steps p.tables e below (s₁.setTop (mkF m 36 #[.val (.ref a1), .val (.int p2), .val (.double r24), .second, .val (.int (1 : Int32))] [(.double r35)])) _
    exact retOut X0 hx Bd.returns rfl (Or.inr (Or.inr (Or.inl ⟨rfl, rfl, _, rfl⟩))) (hb hby d5_36) hr
  · show QP (some (.double r35)) h0 n0 _ s₁.heap _
    rw [e0]
    exact ⟨rfl, N0, rfl⟩
theorem d6_8 : decode prog_6_method_7_code 8 = .ok (.aload_n 0, 1) := by decide +kernel
theorem d6_9 : decode prog_6_method_7_code 9 = .ok (.iload_n 2, 1) := by decide +kernel
theorem d6_10 : decode prog_6_method_7_code 10 = .ok (.iaload, 1) := by decide +kernel
theorem d6_11 : decode prog_6_method_7_code 11 = .ok (.iload_n 1, 1) := by decide +kernel
theorem d6_12 : decode prog_6_method_7_code 12 = .ok (.if_icmp .gt 9, 3) := by decide +kernel
set_option maxRecDepth 65536 in
set_option maxHeartbeats 40000000 in
theorem rm6_1t (l : Launch) (Z : State) (a0 : Array Value) (hw : ∀ d ∈ tables_1, d.before a0 Z = true) (ws : List Jvm.Cond) (a1 : Addr) (p2 : Int32) (cl_a1 : Cell) (w3 : Int32) (h0 : Heap) (n0 : Nat) (Z0 : n0 ≤ h0.size) (Ar_a1 : Arr Z h0 a1 cl_a1 .int) (S_a1 : cl_a1.slots.size = (1 : Int32).toNatClampNeg) (N_a1 : ¬ (1 : Int32) < 0) (hin10 : ¬ ((0 : Int32) < 0 ∨ cl_a1.slots.size ≤ ((0 : Int32)).toNatClampNeg)) (hat10 : cl_a1.slots[((0 : Int32)).toNatClampNeg]? = some (.int w3)) (hc12 : p2 < w3) :
    MetFree l (⟨"com/example/pesquisa/pesquisa/Measure", "foundBy", "([II)I"⟩ : MethodName) (head1 (Jvm.Cond.code (⟨"com/example/pesquisa/pesquisa/Measure", "foundBy", "([II)I"⟩ : MethodName) prog_6_method_7_code 3 (some .int) :: ws) ({ frames := 0, cells := 0, slots := 0, locals := 0 } : Room)) (fun a U => a = #[(.ref a1), (.int p2)] ∧ Z.Warmed39 U.vm ∧ U.heap = h0) (fun _ _ _ _ _ => True) (fun _ U o U' => ∃ v L, o = .returned v ∧ QP (some (.int (0 : Int32))) h0 n0 v U'.heap L ∧ FrameEnd U o U' L ({ frames := 0, cells := 0, slots := 0, locals := 0 } : Room).cells ({ frames := 0, cells := 0, slots := 0, locals := 0 } : Room).slots) := by
  refine MetFree.of_bodySF (plainFor_of_name pn_6) hisR ?_
  intro p e s m args below meth c s₁ Bd hml0 hP hK
  obtain ⟨rfl, hZ, hh⟩ := hP
  have hx := Bd.exec
  have hby := Bd.bytes
  have hml : c.maxLocals = 3 := hml0
  have hown : s.vm.findClass "com/example/pesquisa/pesquisa/Measure" = some m.cls := findClass_of_methodNamed Bd.named
  have hnm := (name_of_methodNamed Bd.named Bd.method).1
  have X0 : Stand p l e ({ frames := 0, cells := 0, slots := 0, locals := 0 } : Room) s m #[(.ref a1), (.int p2)] below meth c s₁ [] 0 0 := Stand.of_body Bd
  have e0 : s₁.heap = h0 := by rw [← hh, Bd.state]; rfl
  have N0 := Fr.nil n0
  have pre0 : ∀ t, Steps p.tables e below (s₁.setTop (mkF m 0 #[.val (.ref a1), .val (.int p2), .unset] [])) t → Steps p.tables e below (s₁.setTop (entryFrame m #[(.ref a1), (.int p2)] 3)) t := fun t k => castTop (ef_6 m a1 p2) k

  obtain ⟨fs, hr, hrun, hended, hW, hsame⟩ := X0.leave (v := some (.int (0 : Int32))) (fun h => by rw [Bd.returns] at h; cases h)
  refine ⟨_, _, pre0 _ ?_, hrun, hended, _, _, rfl, ?_, ⟨_, rfl⟩, hW, hsame.mono (by decide) (by decide)⟩
  · show Steps p.tables e below (s₁.setTop (mkF m 0 #[.val (.ref a1), .val (.int p2), .unset] [])) _
    refine XS.iconst X0.here hx rfl (hb hby d6_0) ?_
    show Steps p.tables e below (s₁.setTop (mkF m 1 #[.val (.ref a1), .val (.int p2), .unset] [(.int (0 : Int32))])) _
    refine XS.istoreN X0.here hx rfl (hb hby d6_1) rfl (l' := #[.val (.ref a1), .val (.int p2), .val (.int (0 : Int32))]) rfl ?_
    show Steps p.tables e below (s₁.setTop (mkF m 2 #[.val (.ref a1), .val (.int p2), .val (.int (0 : Int32))] [])) _
    refine XS.iloadN X0.here hx rfl (hb hby d6_2) rfl ?_
    show Steps p.tables e below (s₁.setTop (mkF m 3 #[.val (.ref a1), .val (.int p2), .val (.int (0 : Int32))] [(.int (0 : Int32))])) _
    refine XS.aloadN X0.here hx rfl (hb hby d6_3) rfl rfl ?_
    show Steps p.tables e below (s₁.setTop (mkF m 4 #[.val (.ref a1), .val (.int p2), .val (.int (0 : Int32))] [(.ref a1), (.int (0 : Int32))])) _
    refine X0.arraylength hx (by rw [e0]; exact Ar_a1.1) (State.isArrayOf_alike hZ.alike Ar_a1.2.1) (g := (mkF m 4 #[.val (.ref a1), .val (.int p2), .val (.int (0 : Int32))] [(.ref a1), (.int (0 : Int32))])) rfl rfl (hb hby d6_4) _ ?_
    rw [len_of S_a1 N_a1]
    show Steps p.tables e below (s₁.setTop (mkF m 5 #[.val (.ref a1), .val (.int p2), .val (.int (0 : Int32))] [(.int (1 : Int32)), (.int (0 : Int32))])) _
    refine XS.icmpNo X0.here hx rfl (hb hby d6_5) rfl (tlt (by decide : (0 : Int32) < (1 : Int32))).2.1 ?_
    show Steps p.tables e below (s₁.setTop (mkF m 8 #[.val (.ref a1), .val (.int p2), .val (.int (0 : Int32))] [])) _
    refine XS.aloadN X0.here hx rfl (hb hby d6_8) rfl rfl ?_
    show Steps p.tables e below (s₁.setTop (mkF m 9 #[.val (.ref a1), .val (.int p2), .val (.int (0 : Int32))] [(.ref a1)])) _
    refine XS.iloadN X0.here hx rfl (hb hby d6_9) rfl ?_
    show Steps p.tables e below (s₁.setTop (mkF m 10 #[.val (.ref a1), .val (.int p2), .val (.int (0 : Int32))] [(.int (0 : Int32)), (.ref a1)])) _
    refine X0.iaload hx (j := (0 : Int32)) (v := (.int w3)) (by rw [e0]; exact Ar_a1.1) (State.isArrayOf_alike hZ.alike Ar_a1.2.1) Ar_a1.2.2 hin10 hat10 (g := (mkF m 10 #[.val (.ref a1), .val (.int p2), .val (.int (0 : Int32))] [(.int (0 : Int32)), (.ref a1)])) rfl rfl (hb hby d6_10) _ ?_
    show Steps p.tables e below (s₁.setTop (mkF m 11 #[.val (.ref a1), .val (.int p2), .val (.int (0 : Int32))] [(.int w3)])) _
    refine XS.iloadN X0.here hx rfl (hb hby d6_11) rfl ?_
    show Steps p.tables e below (s₁.setTop (mkF m 12 #[.val (.ref a1), .val (.int p2), .val (.int (0 : Int32))] [(.int p2), (.int w3)])) _
    refine XS.icmpYes X0.here hx rfl (pc0 := 12) (pc' := 21) rfl (hb hby d6_12) rfl (tlt hc12).2.2.1 (by decide) (by decide) ?_
    show Steps p.tables e below (s₁.setTop (mkF m 21 #[.val (.ref a1), .val (.int p2), .val (.int (0 : Int32))] [])) _
    refine XS.iloadN X0.here hx rfl (hb hby d6_21) rfl ?_
    show Steps p.tables e below (s₁.setTop (mkF m 22 #[.val (.ref a1), .val (.int p2), .val (.int (0 : Int32))] [(.int (0 : Int32))])) _
    exact retI X0 hx Bd.returns (hb hby d6_22) hr
  · show QP (some (.int (0 : Int32))) h0 n0 _ s₁.heap _
    rw [e0]
    exact ⟨rfl, N0, rfl⟩
theorem d6_15 : decode prog_6_method_7_code 15 = .ok (.iinc 2 1, 3) := by decide +kernel
theorem d6_18 : decode prog_6_method_7_code 18 = .ok (.goto (-16), 3) := by decide +kernel
set_option maxRecDepth 65536 in
set_option maxHeartbeats 40000000 in
theorem rm6_1f (l : Launch) (Z : State) (a0 : Array Value) (hw : ∀ d ∈ tables_1, d.before a0 Z = true) (ws : List Jvm.Cond) (a1 : Addr) (p2 : Int32) (cl_a1 : Cell) (w3 : Int32) (h0 : Heap) (n0 : Nat) (Z0 : n0 ≤ h0.size) (Ar_a1 : Arr Z h0 a1 cl_a1 .int) (S_a1 : cl_a1.slots.size = (1 : Int32).toNatClampNeg) (N_a1 : ¬ (1 : Int32) < 0) (hin10 : ¬ ((0 : Int32) < 0 ∨ cl_a1.slots.size ≤ ((0 : Int32)).toNatClampNeg)) (hat10 : cl_a1.slots[((0 : Int32)).toNatClampNeg]? = some (.int w3)) (hc12 : ¬ (p2 < w3)) :
    MetFree l (⟨"com/example/pesquisa/pesquisa/Measure", "foundBy", "([II)I"⟩ : MethodName) (head1 (Jvm.Cond.code (⟨"com/example/pesquisa/pesquisa/Measure", "foundBy", "([II)I"⟩ : MethodName) prog_6_method_7_code 3 (some .int) :: ws) ({ frames := 0, cells := 0, slots := 0, locals := 0 } : Room)) (fun a U => a = #[(.ref a1), (.int p2)] ∧ Z.Warmed39 U.vm ∧ U.heap = h0) (fun _ _ _ _ _ => True) (fun _ U o U' => ∃ v L, o = .returned v ∧ QP (some (.int (1 : Int32))) h0 n0 v U'.heap L ∧ FrameEnd U o U' L ({ frames := 0, cells := 0, slots := 0, locals := 0 } : Room).cells ({ frames := 0, cells := 0, slots := 0, locals := 0 } : Room).slots) := by
  refine MetFree.of_bodySF (plainFor_of_name pn_6) hisR ?_
  intro p e s m args below meth c s₁ Bd hml0 hP hK
  obtain ⟨rfl, hZ, hh⟩ := hP
  have hx := Bd.exec
  have hby := Bd.bytes
  have hml : c.maxLocals = 3 := hml0
  have hown : s.vm.findClass "com/example/pesquisa/pesquisa/Measure" = some m.cls := findClass_of_methodNamed Bd.named
  have hnm := (name_of_methodNamed Bd.named Bd.method).1
  have X0 : Stand p l e ({ frames := 0, cells := 0, slots := 0, locals := 0 } : Room) s m #[(.ref a1), (.int p2)] below meth c s₁ [] 0 0 := Stand.of_body Bd
  have e0 : s₁.heap = h0 := by rw [← hh, Bd.state]; rfl
  have N0 := Fr.nil n0
  have pre0 : ∀ t, Steps p.tables e below (s₁.setTop (mkF m 0 #[.val (.ref a1), .val (.int p2), .unset] [])) t → Steps p.tables e below (s₁.setTop (entryFrame m #[(.ref a1), (.int p2)] 3)) t := fun t k => castTop (ef_6 m a1 p2) k

  obtain ⟨fs, hr, hrun, hended, hW, hsame⟩ := X0.leave (v := some (.int (1 : Int32))) (fun h => by rw [Bd.returns] at h; cases h)
  refine ⟨_, _, pre0 _ ?_, hrun, hended, _, _, rfl, ?_, ⟨_, rfl⟩, hW, hsame.mono (by decide) (by decide)⟩
  · show Steps p.tables e below (s₁.setTop (mkF m 0 #[.val (.ref a1), .val (.int p2), .unset] [])) _
    refine XS.iconst X0.here hx rfl (hb hby d6_0) ?_
    show Steps p.tables e below (s₁.setTop (mkF m 1 #[.val (.ref a1), .val (.int p2), .unset] [(.int (0 : Int32))])) _
    refine XS.istoreN X0.here hx rfl (hb hby d6_1) rfl (l' := #[.val (.ref a1), .val (.int p2), .val (.int (0 : Int32))]) rfl ?_
    show Steps p.tables e below (s₁.setTop (mkF m 2 #[.val (.ref a1), .val (.int p2), .val (.int (0 : Int32))] [])) _
    refine XS.iloadN X0.here hx rfl (hb hby d6_2) rfl ?_
    show Steps p.tables e below (s₁.setTop (mkF m 3 #[.val (.ref a1), .val (.int p2), .val (.int (0 : Int32))] [(.int (0 : Int32))])) _
    refine XS.aloadN X0.here hx rfl (hb hby d6_3) rfl rfl ?_
    show Steps p.tables e below (s₁.setTop (mkF m 4 #[.val (.ref a1), .val (.int p2), .val (.int (0 : Int32))] [(.ref a1), (.int (0 : Int32))])) _
    refine X0.arraylength hx (by rw [e0]; exact Ar_a1.1) (State.isArrayOf_alike hZ.alike Ar_a1.2.1) (g := (mkF m 4 #[.val (.ref a1), .val (.int p2), .val (.int (0 : Int32))] [(.ref a1), (.int (0 : Int32))])) rfl rfl (hb hby d6_4) _ ?_
    rw [len_of S_a1 N_a1]
    show Steps p.tables e below (s₁.setTop (mkF m 5 #[.val (.ref a1), .val (.int p2), .val (.int (0 : Int32))] [(.int (1 : Int32)), (.int (0 : Int32))])) _
    refine XS.icmpNo X0.here hx rfl (hb hby d6_5) rfl (tlt (by decide : (0 : Int32) < (1 : Int32))).2.1 ?_
    show Steps p.tables e below (s₁.setTop (mkF m 8 #[.val (.ref a1), .val (.int p2), .val (.int (0 : Int32))] [])) _
    refine XS.aloadN X0.here hx rfl (hb hby d6_8) rfl rfl ?_
    show Steps p.tables e below (s₁.setTop (mkF m 9 #[.val (.ref a1), .val (.int p2), .val (.int (0 : Int32))] [(.ref a1)])) _
    refine XS.iloadN X0.here hx rfl (hb hby d6_9) rfl ?_
    show Steps p.tables e below (s₁.setTop (mkF m 10 #[.val (.ref a1), .val (.int p2), .val (.int (0 : Int32))] [(.int (0 : Int32)), (.ref a1)])) _
    refine X0.iaload hx (j := (0 : Int32)) (v := (.int w3)) (by rw [e0]; exact Ar_a1.1) (State.isArrayOf_alike hZ.alike Ar_a1.2.1) Ar_a1.2.2 hin10 hat10 (g := (mkF m 10 #[.val (.ref a1), .val (.int p2), .val (.int (0 : Int32))] [(.int (0 : Int32)), (.ref a1)])) rfl rfl (hb hby d6_10) _ ?_
    show Steps p.tables e below (s₁.setTop (mkF m 11 #[.val (.ref a1), .val (.int p2), .val (.int (0 : Int32))] [(.int w3)])) _
    refine XS.iloadN X0.here hx rfl (hb hby d6_11) rfl ?_
    show Steps p.tables e below (s₁.setTop (mkF m 12 #[.val (.ref a1), .val (.int p2), .val (.int (0 : Int32))] [(.int p2), (.int w3)])) _
    refine XS.icmpNo X0.here hx rfl (hb hby d6_12) rfl (flt hc12).2.2.1 ?_
    show Steps p.tables e below (s₁.setTop (mkF m 15 #[.val (.ref a1), .val (.int p2), .val (.int (0 : Int32))] [])) _
    refine XS.iinc X0.here hx rfl (hb hby d6_15) rfl (l' := #[.val (.ref a1), .val (.int p2), .val (.int (1 : Int32))]) rfl ?_
    show Steps p.tables e below (s₁.setTop (mkF m 18 #[.val (.ref a1), .val (.int p2), .val (.int (1 : Int32))] [])) _
    refine XS.goto X0.here hx rfl (pc0 := 18) (pc' := 2) rfl (hb hby d6_18) (by decide) (by decide) ?_
    show Steps p.tables e below (s₁.setTop (mkF m 2 #[.val (.ref a1), .val (.int p2), .val (.int (1 : Int32))] [])) _
    refine XS.iloadN X0.here hx rfl (hb hby d6_2) rfl ?_
    show Steps p.tables e below (s₁.setTop (mkF m 3 #[.val (.ref a1), .val (.int p2), .val (.int (1 : Int32))] [(.int (1 : Int32))])) _
    refine XS.aloadN X0.here hx rfl (hb hby d6_3) rfl rfl ?_
    show Steps p.tables e below (s₁.setTop (mkF m 4 #[.val (.ref a1), .val (.int p2), .val (.int (1 : Int32))] [(.ref a1), (.int (1 : Int32))])) _
    refine X0.arraylength hx (by rw [e0]; exact Ar_a1.1) (State.isArrayOf_alike hZ.alike Ar_a1.2.1) (g := (mkF m 4 #[.val (.ref a1), .val (.int p2), .val (.int (1 : Int32))] [(.ref a1), (.int (1 : Int32))])) rfl rfl (hb hby d6_4) _ ?_
    rw [len_of S_a1 N_a1]
    show Steps p.tables e below (s₁.setTop (mkF m 5 #[.val (.ref a1), .val (.int p2), .val (.int (1 : Int32))] [(.int (1 : Int32)), (.int (1 : Int32))])) _
    refine XS.icmpYes X0.here hx rfl (pc0 := 5) (pc' := 21) rfl (hb hby d6_5) rfl (flt (by decide : ¬ ((1 : Int32) < (1 : Int32)))).2.1 (by decide) (by decide) ?_
    show Steps p.tables e below (s₁.setTop (mkF m 21 #[.val (.ref a1), .val (.int p2), .val (.int (1 : Int32))] [])) _
    refine XS.iloadN X0.here hx rfl (hb hby d6_21) rfl ?_
    show Steps p.tables e below (s₁.setTop (mkF m 22 #[.val (.ref a1), .val (.int p2), .val (.int (1 : Int32))] [(.int (1 : Int32))])) _
    exact retI X0 hx Bd.returns (hb hby d6_22) hr
  · show QP (some (.int (1 : Int32))) h0 n0 _ s₁.heap _
    rw [e0]
    exact ⟨rfl, N0, rfl⟩
set_option maxRecDepth 65536 in
set_option maxHeartbeats 40000000 in
theorem rm5_2 (l : Launch) (Z : State) (a0 : Array Value) (hw : ∀ d ∈ tables_1, d.before a0 Z = true) (ws : List Jvm.Cond) (a1 : Addr) (p2 : Int32) (cl_a1 : Cell) (w3 : Int32) (r23 : UInt64) (r24 : UInt64) (w4 : Int32) (r23_2 : UInt64) (r24_2 : UInt64) (r35 : UInt64) (h0 : Heap) (n0 : Nat) (Z0 : n0 ≤ h0.size) (Ar_a1 : Arr Z h0 a1 cl_a1 .int) (S_a1 : cl_a1.slots.size = (2 : Int32).toNatClampNeg) (N_a1 : ¬ (2 : Int32) < 0) (hin21 : ¬ ((0 : Int32) < 0 ∨ cl_a1.slots.size ≤ ((0 : Int32)).toNatClampNeg)) (hat21 : cl_a1.slots[((0 : Int32)).toNatClampNeg]? = some (.int w3)) (hin21_2 : ¬ ((1 : Int32) < 0 ∨ cl_a1.slots.size ≤ ((1 : Int32)).toNatClampNeg)) (hat21_2 : cl_a1.slots[((1 : Int32)).toNatClampNeg]? = some (.int w4)) (hv23 : (FP.ddiv (FP.i2d (1 : Int32)) (FP.i2d w3)) = r23) (hn23 : Jvm.Free.Fl.NoNaN64 (FP.ddiv (FP.i2d (1 : Int32)) (FP.i2d w3))) (hv24 : (FP.dadd FP.dconst0 r23) = r24) (hn24 : Jvm.Free.Fl.NoNaN64 (FP.dadd FP.dconst0 r23)) (hv23_2 : (FP.ddiv (FP.i2d (2 : Int32)) (FP.i2d w4)) = r23_2) (hn23_2 : Jvm.Free.Fl.NoNaN64 (FP.ddiv (FP.i2d (2 : Int32)) (FP.i2d w4))) (hv24_2 : (FP.dadd r24 r23_2) = r24_2) (hn24_2 : Jvm.Free.Fl.NoNaN64 (FP.dadd r24 r23_2)) (hv35 : (FP.ddiv r24_2 (FP.i2d p2)) = r35) (hn35 : Jvm.Free.Fl.NoNaN64 (FP.ddiv r24_2 (FP.i2d p2))) :
    MetFree l (⟨"com/example/pesquisa/pesquisa/Measure", "averagePrecision", "([II)D"⟩ : MethodName) (head1 (Jvm.Cond.code (⟨"com/example/pesquisa/pesquisa/Measure", "averagePrecision", "([II)D"⟩ : MethodName) prog_6_method_6_code 5 (some .double) :: ws) ({ frames := 0, cells := 0, slots := 0, locals := 0 } : Room)) (fun a U => a = #[(.ref a1), (.int p2)] ∧ Z.Warmed39 U.vm ∧ U.heap = h0) (fun _ _ _ _ _ => True) (fun _ U o U' => ∃ v L, o = .returned v ∧ QP (some (.double r35)) h0 n0 v U'.heap L ∧ FrameEnd U o U' L ({ frames := 0, cells := 0, slots := 0, locals := 0 } : Room).cells ({ frames := 0, cells := 0, slots := 0, locals := 0 } : Room).slots) := by
  refine MetFree.of_bodySF (plainFor_of_name pn_5) hisR ?_
  intro p e s m args below meth c s₁ Bd hml0 hP hK
  obtain ⟨rfl, hZ, hh⟩ := hP
  have hx := Bd.exec
  have hby := Bd.bytes
  have hml : c.maxLocals = 5 := hml0
  have hown : s.vm.findClass "com/example/pesquisa/pesquisa/Measure" = some m.cls := findClass_of_methodNamed Bd.named
  have hnm := (name_of_methodNamed Bd.named Bd.method).1
  have X0 : Stand p l e ({ frames := 0, cells := 0, slots := 0, locals := 0 } : Room) s m #[(.ref a1), (.int p2)] below meth c s₁ [] 0 0 := Stand.of_body Bd
  have e0 : s₁.heap = h0 := by rw [← hh, Bd.state]; rfl
  have N0 := Fr.nil n0
  have pre0 : ∀ t, Steps p.tables e below (s₁.setTop (mkF m 0 #[.val (.ref a1), .val (.int p2), .unset, .unset, .unset] [])) t → Steps p.tables e below (s₁.setTop (entryFrame m #[(.ref a1), (.int p2)] 5)) t := fun t k => castTop (ef_5 m a1 p2) k

  obtain ⟨fs, hr, hrun, hended, hW, hsame⟩ := X0.leave (v := some (.double r35)) (fun h => by rw [Bd.returns] at h; cases h)
  refine ⟨_, _, pre0 _ ?_, hrun, hended, _, _, rfl, ?_, ⟨_, rfl⟩, hW, hsame.mono (by decide) (by decide)⟩
  · show Steps p.tables e below (s₁.setTop (mkF m 0 #[.val (.ref a1), .val (.int p2), .unset, .unset, .unset] [])) _
    refine XS.dconst0 X0.here hx rfl (hb hby d5_0) rfl ?_
    show Steps p.tables e below (s₁.setTop (mkF m 1 #[.val (.ref a1), .val (.int p2), .unset, .unset, .unset] [(.double FP.dconst0)])) _
    refine XS.dstoreN X0.here hx rfl (hb hby d5_1) rfl (l' := #[.val (.ref a1), .val (.int p2), .val (.double FP.dconst0), .second, .unset]) rfl ?_
    show Steps p.tables e below (s₁.setTop (mkF m 2 #[.val (.ref a1), .val (.int p2), .val (.double FP.dconst0), .second, .unset] [])) _
    refine XS.iconst X0.here hx rfl (hb hby d5_2) ?_
    show Steps p.tables e below (s₁.setTop (mkF m 3 #[.val (.ref a1), .val (.int p2), .val (.double FP.dconst0), .second, .unset] [(.int (0 : Int32))])) _
    refine XS.istore X0.here hx rfl (hb hby d5_3) rfl (l' := #[.val (.ref a1), .val (.int p2), .val (.double FP.dconst0), .second, .val (.int (0 : Int32))]) rfl ?_
    show Steps p.tables e below (s₁.setTop (mkF m 5 #[.val (.ref a1), .val (.int p2), .val (.double FP.dconst0), .second, .val (.int (0 : Int32))] [])) _
    refine XS.iload X0.here hx rfl (hb hby d5_5) rfl ?_
    show Steps p.tables e below (s₁.setTop (mkF m 7 #[.val (.ref a1), .val (.int p2), .val (.double FP.dconst0), .second, .val (.int (0 : Int32))] [(.int (0 : Int32))])) _
    refine XS.aloadN X0.here hx rfl (hb hby d5_7) rfl rfl ?_
    show Steps p.tables e below (s₁.setTop (mkF m 8 #[.val (.ref a1), .val (.int p2), .val (.double FP.dconst0), .second, .val (.int (0 : Int32))] [(.ref a1), (.int (0 : Int32))])) _
    refine X0.arraylength hx (by rw [e0]; exact Ar_a1.1) (State.isArrayOf_alike hZ.alike Ar_a1.2.1) (g := (mkF m 8 #[.val (.ref a1), .val (.int p2), .val (.double FP.dconst0), .second, .val (.int (0 : Int32))] [(.ref a1), (.int (0 : Int32))])) rfl rfl (hb hby d5_8) _ ?_
    rw [len_of S_a1 N_a1]
    show Steps p.tables e below (s₁.setTop (mkF m 9 #[.val (.ref a1), .val (.int p2), .val (.double FP.dconst0), .second, .val (.int (0 : Int32))] [(.int (2 : Int32)), (.int (0 : Int32))])) _
    refine XS.icmpNo X0.here hx rfl (hb hby d5_9) rfl (tlt (by decide : (0 : Int32) < (2 : Int32))).2.1 ?_
    show Steps p.tables e below (s₁.setTop (mkF m 12 #[.val (.ref a1), .val (.int p2), .val (.double FP.dconst0), .second, .val (.int (0 : Int32))] [])) _
    refine XS.dloadN X0.here hx rfl (hb hby d5_12) rfl ?_
    show Steps p.tables e below (s₁.setTop (mkF m 13 #[.val (.ref a1), .val (.int p2), .val (.double FP.dconst0), .second, .val (.int (0 : Int32))] [(.double FP.dconst0)])) _
    refine XS.iload X0.here hx rfl (hb hby d5_13) rfl ?_
    show Steps p.tables e below (s₁.setTop (mkF m 15 #[.val (.ref a1), .val (.int p2), .val (.double FP.dconst0), .second, .val (.int (0 : Int32))] [(.int (0 : Int32)), (.double FP.dconst0)])) _
    refine XS.iconst X0.here hx rfl (hb hby d5_15) ?_
    show Steps p.tables e below (s₁.setTop (mkF m 16 #[.val (.ref a1), .val (.int p2), .val (.double FP.dconst0), .second, .val (.int (0 : Int32))] [(.int (1 : Int32)), (.int (0 : Int32)), (.double FP.dconst0)])) _
    refine XS.iadd X0.here hx rfl (hb hby d5_16) rfl ?_
    show Steps p.tables e below (s₁.setTop (mkF m 17 #[.val (.ref a1), .val (.int p2), .val (.double FP.dconst0), .second, .val (.int (0 : Int32))] [(.int (1 : Int32)), (.double FP.dconst0)])) _
    refine XS.i2dS X0.here hx rfl (hb hby d5_17) rfl rfl ?_
    show Steps p.tables e below (s₁.setTop (mkF m 18 #[.val (.ref a1), .val (.int p2), .val (.double FP.dconst0), .second, .val (.int (0 : Int32))] [(.double (FP.i2d (1 : Int32))), (.double FP.dconst0)])) _
    refine XS.aloadN X0.here hx rfl (hb hby d5_18) rfl rfl ?_
    show Steps p.tables e below (s₁.setTop (mkF m 19 #[.val (.ref a1), .val (.int p2), .val (.double FP.dconst0), .second, .val (.int (0 : Int32))] [(.ref a1), (.double (FP.i2d (1 : Int32))), (.double FP.dconst0)])) _
    refine XS.iload X0.here hx rfl (hb hby d5_19) rfl ?_
    show Steps p.tables e below (s₁.setTop (mkF m 21 #[.val (.ref a1), .val (.int p2), .val (.double FP.dconst0), .second, .val (.int (0 : Int32))] [(.int (0 : Int32)), (.ref a1), (.double (FP.i2d (1 : Int32))), (.double FP.dconst0)])) _
    refine X0.iaload hx (j := (0 : Int32)) (v := (.int w3)) (by rw [e0]; exact Ar_a1.1) (State.isArrayOf_alike hZ.alike Ar_a1.2.1) Ar_a1.2.2 hin21 hat21 (g := (mkF m 21 #[.val (.ref a1), .val (.int p2), .val (.double FP.dconst0), .second, .val (.int (0 : Int32))] [(.int (0 : Int32)), (.ref a1), (.double (FP.i2d (1 : Int32))), (.double FP.dconst0)])) rfl rfl (hb hby d5_21) _ ?_
    show Steps p.tables e below (s₁.setTop (mkF m 22 #[.val (.ref a1), .val (.int p2), .val (.double FP.dconst0), .second, .val (.int (0 : Int32))] [(.int w3), (.double (FP.i2d (1 : Int32))), (.double FP.dconst0)])) _
    refine XS.i2dS X0.here hx rfl (hb hby d5_22) rfl rfl ?_
    show Steps p.tables e below (s₁.setTop (mkF m 23 #[.val (.ref a1), .val (.int p2), .val (.double FP.dconst0), .second, .val (.int (0 : Int32))] [(.double (FP.i2d w3)), (.double (FP.i2d (1 : Int32))), (.double FP.dconst0)])) _
    refine XS.ddivS X0.here hx rfl (hb hby d5_23) rfl hn23 hv23 ?_
    show Steps p.tables e below (s₁.setTop (mkF m 24 #[.val (.ref a1), .val (.int p2), .val (.double FP.dconst0), .second, .val (.int (0 : Int32))] [(.double r23), (.double FP.dconst0)])) _
    refine XS.daddS X0.here hx rfl (hb hby d5_24) rfl hn24 hv24 ?_
    show Steps p.tables e below (s₁.setTop (mkF m 25 #[.val (.ref a1), .val (.int p2), .val (.double FP.dconst0), .second, .val (.int (0 : Int32))] [(.double r24)])) _
    refine XS.dstoreN X0.here hx rfl (hb hby d5_25) rfl (l' := #[.val (.ref a1), .val (.int p2), .val (.double r24), .second, .val (.int (0 : Int32))]) rfl ?_
    show Steps p.tables e below (s₁.setTop (mkF m 26 #[.val (.ref a1), .val (.int p2), .val (.double r24), .second, .val (.int (0 : Int32))] [])) _
    refine XS.iinc X0.here hx rfl (hb hby d5_26) rfl (l' := #[.val (.ref a1), .val (.int p2), .val (.double r24), .second, .val (.int (1 : Int32))]) rfl ?_
    show Steps p.tables e below (s₁.setTop (mkF m 29 #[.val (.ref a1), .val (.int p2), .val (.double r24), .second, .val (.int (1 : Int32))] [])) _
    refine XS.goto X0.here hx rfl (pc0 := 29) (pc' := 5) rfl (hb hby d5_29) (by decide) (by decide) ?_
    show Steps p.tables e below (s₁.setTop (mkF m 5 #[.val (.ref a1), .val (.int p2), .val (.double r24), .second, .val (.int (1 : Int32))] [])) _
    refine XS.iload X0.here hx rfl (hb hby d5_5) rfl ?_
    show Steps p.tables e below (s₁.setTop (mkF m 7 #[.val (.ref a1), .val (.int p2), .val (.double r24), .second, .val (.int (1 : Int32))] [(.int (1 : Int32))])) _
    refine XS.aloadN X0.here hx rfl (hb hby d5_7) rfl rfl ?_
    show Steps p.tables e below (s₁.setTop (mkF m 8 #[.val (.ref a1), .val (.int p2), .val (.double r24), .second, .val (.int (1 : Int32))] [(.ref a1), (.int (1 : Int32))])) _
    refine X0.arraylength hx (by rw [e0]; exact Ar_a1.1) (State.isArrayOf_alike hZ.alike Ar_a1.2.1) (g := (mkF m 8 #[.val (.ref a1), .val (.int p2), .val (.double r24), .second, .val (.int (1 : Int32))] [(.ref a1), (.int (1 : Int32))])) rfl rfl (hb hby d5_8) _ ?_
    rw [len_of S_a1 N_a1]
    show Steps p.tables e below (s₁.setTop (mkF m 9 #[.val (.ref a1), .val (.int p2), .val (.double r24), .second, .val (.int (1 : Int32))] [(.int (2 : Int32)), (.int (1 : Int32))])) _
    refine XS.icmpNo X0.here hx rfl (hb hby d5_9) rfl (tlt (by decide : (1 : Int32) < (2 : Int32))).2.1 ?_
    show Steps p.tables e below (s₁.setTop (mkF m 12 #[.val (.ref a1), .val (.int p2), .val (.double r24), .second, .val (.int (1 : Int32))] [])) _
    refine XS.dloadN X0.here hx rfl (hb hby d5_12) rfl ?_
    show Steps p.tables e below (s₁.setTop (mkF m 13 #[.val (.ref a1), .val (.int p2), .val (.double r24), .second, .val (.int (1 : Int32))] [(.double r24)])) _
    refine XS.iload X0.here hx rfl (hb hby d5_13) rfl ?_
    show Steps p.tables e below (s₁.setTop (mkF m 15 #[.val (.ref a1), .val (.int p2), .val (.double r24), .second, .val (.int (1 : Int32))] [(.int (1 : Int32)), (.double r24)])) _
    refine XS.iconst X0.here hx rfl (hb hby d5_15) ?_
    show Steps p.tables e below (s₁.setTop (mkF m 16 #[.val (.ref a1), .val (.int p2), .val (.double r24), .second, .val (.int (1 : Int32))] [(.int (1 : Int32)), (.int (1 : Int32)), (.double r24)])) _
    refine XS.iadd X0.here hx rfl (hb hby d5_16) rfl ?_
    show Steps p.tables e below (s₁.setTop (mkF m 17 #[.val (.ref a1), .val (.int p2), .val (.double r24), .second, .val (.int (1 : Int32))] [(.int (2 : Int32)), (.double r24)])) _
    refine XS.i2dS X0.here hx rfl (hb hby d5_17) rfl rfl ?_
    show Steps p.tables e below (s₁.setTop (mkF m 18 #[.val (.ref a1), .val (.int p2), .val (.double r24), .second, .val (.int (1 : Int32))] [(.double (FP.i2d (2 : Int32))), (.double r24)])) _
    refine XS.aloadN X0.here hx rfl (hb hby d5_18) rfl rfl ?_
    show Steps p.tables e below (s₁.setTop (mkF m 19 #[.val (.ref a1), .val (.int p2), .val (.double r24), .second, .val (.int (1 : Int32))] [(.ref a1), (.double (FP.i2d (2 : Int32))), (.double r24)])) _
    refine XS.iload X0.here hx rfl (hb hby d5_19) rfl ?_
    show Steps p.tables e below (s₁.setTop (mkF m 21 #[.val (.ref a1), .val (.int p2), .val (.double r24), .second, .val (.int (1 : Int32))] [(.int (1 : Int32)), (.ref a1), (.double (FP.i2d (2 : Int32))), (.double r24)])) _
    refine X0.iaload hx (j := (1 : Int32)) (v := (.int w4)) (by rw [e0]; exact Ar_a1.1) (State.isArrayOf_alike hZ.alike Ar_a1.2.1) Ar_a1.2.2 hin21_2 hat21_2 (g := (mkF m 21 #[.val (.ref a1), .val (.int p2), .val (.double r24), .second, .val (.int (1 : Int32))] [(.int (1 : Int32)), (.ref a1), (.double (FP.i2d (2 : Int32))), (.double r24)])) rfl rfl (hb hby d5_21) _ ?_
    show Steps p.tables e below (s₁.setTop (mkF m 22 #[.val (.ref a1), .val (.int p2), .val (.double r24), .second, .val (.int (1 : Int32))] [(.int w4), (.double (FP.i2d (2 : Int32))), (.double r24)])) _
    refine XS.i2dS X0.here hx rfl (hb hby d5_22) rfl rfl ?_
    show Steps p.tables e below (s₁.setTop (mkF m 23 #[.val (.ref a1), .val (.int p2), .val (.double r24), .second, .val (.int (1 : Int32))] [(.double (FP.i2d w4)), (.double (FP.i2d (2 : Int32))), (.double r24)])) _
    refine XS.ddivS X0.here hx rfl (hb hby d5_23) rfl hn23_2 hv23_2 ?_
    show Steps p.tables e below (s₁.setTop (mkF m 24 #[.val (.ref a1), .val (.int p2), .val (.double r24), .second, .val (.int (1 : Int32))] [(.double r23_2), (.double r24)])) _
    refine XS.daddS X0.here hx rfl (hb hby d5_24) rfl hn24_2 hv24_2 ?_
    show Steps p.tables e below (s₁.setTop (mkF m 25 #[.val (.ref a1), .val (.int p2), .val (.double r24), .second, .val (.int (1 : Int32))] [(.double r24_2)])) _
    refine XS.dstoreN X0.here hx rfl (hb hby d5_25) rfl (l' := #[.val (.ref a1), .val (.int p2), .val (.double r24_2), .second, .val (.int (1 : Int32))]) rfl ?_
    show Steps p.tables e below (s₁.setTop (mkF m 26 #[.val (.ref a1), .val (.int p2), .val (.double r24_2), .second, .val (.int (1 : Int32))] [])) _
    refine XS.iinc X0.here hx rfl (hb hby d5_26) rfl (l' := #[.val (.ref a1), .val (.int p2), .val (.double r24_2), .second, .val (.int (2 : Int32))]) rfl ?_
    show Steps p.tables e below (s₁.setTop (mkF m 29 #[.val (.ref a1), .val (.int p2), .val (.double r24_2), .second, .val (.int (2 : Int32))] [])) _
    refine XS.goto X0.here hx rfl (pc0 := 29) (pc' := 5) rfl (hb hby d5_29) (by decide) (by decide) ?_
    show Steps p.tables e below (s₁.setTop (mkF m 5 #[.val (.ref a1), .val (.int p2), .val (.double r24_2), .second, .val (.int (2 : Int32))] [])) _
    refine XS.iload X0.here hx rfl (hb hby d5_5) rfl ?_
    show Steps p.tables e below (s₁.setTop (mkF m 7 #[.val (.ref a1), .val (.int p2), .val (.double r24_2), .second, .val (.int (2 : Int32))] [(.int (2 : Int32))])) _
    refine XS.aloadN X0.here hx rfl (hb hby d5_7) rfl rfl ?_
    show Steps p.tables e below (s₁.setTop (mkF m 8 #[.val (.ref a1), .val (.int p2), .val (.double r24_2), .second, .val (.int (2 : Int32))] [(.ref a1), (.int (2 : Int32))])) _
    refine X0.arraylength hx (by rw [e0]; exact Ar_a1.1) (State.isArrayOf_alike hZ.alike Ar_a1.2.1) (g := (mkF m 8 #[.val (.ref a1), .val (.int p2), .val (.double r24_2), .second, .val (.int (2 : Int32))] [(.ref a1), (.int (2 : Int32))])) rfl rfl (hb hby d5_8) _ ?_
    rw [len_of S_a1 N_a1]
    show Steps p.tables e below (s₁.setTop (mkF m 9 #[.val (.ref a1), .val (.int p2), .val (.double r24_2), .second, .val (.int (2 : Int32))] [(.int (2 : Int32)), (.int (2 : Int32))])) _
    refine XS.icmpYes X0.here hx rfl (pc0 := 9) (pc' := 32) rfl (hb hby d5_9) rfl (flt (by decide : ¬ ((2 : Int32) < (2 : Int32)))).2.1 (by decide) (by decide) ?_
    show Steps p.tables e below (s₁.setTop (mkF m 32 #[.val (.ref a1), .val (.int p2), .val (.double r24_2), .second, .val (.int (2 : Int32))] [])) _
    refine XS.dloadN X0.here hx rfl (hb hby d5_32) rfl ?_
    show Steps p.tables e below (s₁.setTop (mkF m 33 #[.val (.ref a1), .val (.int p2), .val (.double r24_2), .second, .val (.int (2 : Int32))] [(.double r24_2)])) _
    refine XS.iloadN X0.here hx rfl (hb hby d5_33) rfl ?_
    show Steps p.tables e below (s₁.setTop (mkF m 34 #[.val (.ref a1), .val (.int p2), .val (.double r24_2), .second, .val (.int (2 : Int32))] [(.int p2), (.double r24_2)])) _
    refine XS.i2dS X0.here hx rfl (hb hby d5_34) rfl rfl ?_
    show Steps p.tables e below (s₁.setTop (mkF m 35 #[.val (.ref a1), .val (.int p2), .val (.double r24_2), .second, .val (.int (2 : Int32))] [(.double (FP.i2d p2)), (.double r24_2)])) _
    refine XS.ddivS X0.here hx rfl (hb hby d5_35) rfl hn35 hv35 ?_
    show Steps p.tables e below (s₁.setTop (mkF m 36 #[.val (.ref a1), .val (.int p2), .val (.double r24_2), .second, .val (.int (2 : Int32))] [(.double r35)])) _
    exact retOut X0 hx Bd.returns rfl (Or.inr (Or.inr (Or.inl ⟨rfl, rfl, _, rfl⟩))) (hb hby d5_36) hr
  · show QP (some (.double r35)) h0 n0 _ s₁.heap _
    rw [e0]
    exact ⟨rfl, N0, rfl⟩
set_option maxRecDepth 65536 in
set_option maxHeartbeats 40000000 in
theorem rm6_2t (l : Launch) (Z : State) (a0 : Array Value) (hw : ∀ d ∈ tables_1, d.before a0 Z = true) (ws : List Jvm.Cond) (a1 : Addr) (p2 : Int32) (cl_a1 : Cell) (w3 : Int32) (h0 : Heap) (n0 : Nat) (Z0 : n0 ≤ h0.size) (Ar_a1 : Arr Z h0 a1 cl_a1 .int) (S_a1 : cl_a1.slots.size = (2 : Int32).toNatClampNeg) (N_a1 : ¬ (2 : Int32) < 0) (hin10 : ¬ ((0 : Int32) < 0 ∨ cl_a1.slots.size ≤ ((0 : Int32)).toNatClampNeg)) (hat10 : cl_a1.slots[((0 : Int32)).toNatClampNeg]? = some (.int w3)) (hc12 : p2 < w3) :
    MetFree l (⟨"com/example/pesquisa/pesquisa/Measure", "foundBy", "([II)I"⟩ : MethodName) (head1 (Jvm.Cond.code (⟨"com/example/pesquisa/pesquisa/Measure", "foundBy", "([II)I"⟩ : MethodName) prog_6_method_7_code 3 (some .int) :: ws) ({ frames := 0, cells := 0, slots := 0, locals := 0 } : Room)) (fun a U => a = #[(.ref a1), (.int p2)] ∧ Z.Warmed39 U.vm ∧ U.heap = h0) (fun _ _ _ _ _ => True) (fun _ U o U' => ∃ v L, o = .returned v ∧ QP (some (.int (0 : Int32))) h0 n0 v U'.heap L ∧ FrameEnd U o U' L ({ frames := 0, cells := 0, slots := 0, locals := 0 } : Room).cells ({ frames := 0, cells := 0, slots := 0, locals := 0 } : Room).slots) := by
  refine MetFree.of_bodySF (plainFor_of_name pn_6) hisR ?_
  intro p e s m args below meth c s₁ Bd hml0 hP hK
  obtain ⟨rfl, hZ, hh⟩ := hP
  have hx := Bd.exec
  have hby := Bd.bytes
  have hml : c.maxLocals = 3 := hml0
  have hown : s.vm.findClass "com/example/pesquisa/pesquisa/Measure" = some m.cls := findClass_of_methodNamed Bd.named
  have hnm := (name_of_methodNamed Bd.named Bd.method).1
  have X0 : Stand p l e ({ frames := 0, cells := 0, slots := 0, locals := 0 } : Room) s m #[(.ref a1), (.int p2)] below meth c s₁ [] 0 0 := Stand.of_body Bd
  have e0 : s₁.heap = h0 := by rw [← hh, Bd.state]; rfl
  have N0 := Fr.nil n0
  have pre0 : ∀ t, Steps p.tables e below (s₁.setTop (mkF m 0 #[.val (.ref a1), .val (.int p2), .unset] [])) t → Steps p.tables e below (s₁.setTop (entryFrame m #[(.ref a1), (.int p2)] 3)) t := fun t k => castTop (ef_6 m a1 p2) k

  obtain ⟨fs, hr, hrun, hended, hW, hsame⟩ := X0.leave (v := some (.int (0 : Int32))) (fun h => by rw [Bd.returns] at h; cases h)
  refine ⟨_, _, pre0 _ ?_, hrun, hended, _, _, rfl, ?_, ⟨_, rfl⟩, hW, hsame.mono (by decide) (by decide)⟩
  · show Steps p.tables e below (s₁.setTop (mkF m 0 #[.val (.ref a1), .val (.int p2), .unset] [])) _
    refine XS.iconst X0.here hx rfl (hb hby d6_0) ?_
    show Steps p.tables e below (s₁.setTop (mkF m 1 #[.val (.ref a1), .val (.int p2), .unset] [(.int (0 : Int32))])) _
    refine XS.istoreN X0.here hx rfl (hb hby d6_1) rfl (l' := #[.val (.ref a1), .val (.int p2), .val (.int (0 : Int32))]) rfl ?_
    show Steps p.tables e below (s₁.setTop (mkF m 2 #[.val (.ref a1), .val (.int p2), .val (.int (0 : Int32))] [])) _
    refine XS.iloadN X0.here hx rfl (hb hby d6_2) rfl ?_
    show Steps p.tables e below (s₁.setTop (mkF m 3 #[.val (.ref a1), .val (.int p2), .val (.int (0 : Int32))] [(.int (0 : Int32))])) _
    refine XS.aloadN X0.here hx rfl (hb hby d6_3) rfl rfl ?_
    show Steps p.tables e below (s₁.setTop (mkF m 4 #[.val (.ref a1), .val (.int p2), .val (.int (0 : Int32))] [(.ref a1), (.int (0 : Int32))])) _
    refine X0.arraylength hx (by rw [e0]; exact Ar_a1.1) (State.isArrayOf_alike hZ.alike Ar_a1.2.1) (g := (mkF m 4 #[.val (.ref a1), .val (.int p2), .val (.int (0 : Int32))] [(.ref a1), (.int (0 : Int32))])) rfl rfl (hb hby d6_4) _ ?_
    rw [len_of S_a1 N_a1]
    show Steps p.tables e below (s₁.setTop (mkF m 5 #[.val (.ref a1), .val (.int p2), .val (.int (0 : Int32))] [(.int (2 : Int32)), (.int (0 : Int32))])) _
    refine XS.icmpNo X0.here hx rfl (hb hby d6_5) rfl (tlt (by decide : (0 : Int32) < (2 : Int32))).2.1 ?_
    show Steps p.tables e below (s₁.setTop (mkF m 8 #[.val (.ref a1), .val (.int p2), .val (.int (0 : Int32))] [])) _
    refine XS.aloadN X0.here hx rfl (hb hby d6_8) rfl rfl ?_
    show Steps p.tables e below (s₁.setTop (mkF m 9 #[.val (.ref a1), .val (.int p2), .val (.int (0 : Int32))] [(.ref a1)])) _
    refine XS.iloadN X0.here hx rfl (hb hby d6_9) rfl ?_
    show Steps p.tables e below (s₁.setTop (mkF m 10 #[.val (.ref a1), .val (.int p2), .val (.int (0 : Int32))] [(.int (0 : Int32)), (.ref a1)])) _
    refine X0.iaload hx (j := (0 : Int32)) (v := (.int w3)) (by rw [e0]; exact Ar_a1.1) (State.isArrayOf_alike hZ.alike Ar_a1.2.1) Ar_a1.2.2 hin10 hat10 (g := (mkF m 10 #[.val (.ref a1), .val (.int p2), .val (.int (0 : Int32))] [(.int (0 : Int32)), (.ref a1)])) rfl rfl (hb hby d6_10) _ ?_
    show Steps p.tables e below (s₁.setTop (mkF m 11 #[.val (.ref a1), .val (.int p2), .val (.int (0 : Int32))] [(.int w3)])) _
    refine XS.iloadN X0.here hx rfl (hb hby d6_11) rfl ?_
    show Steps p.tables e below (s₁.setTop (mkF m 12 #[.val (.ref a1), .val (.int p2), .val (.int (0 : Int32))] [(.int p2), (.int w3)])) _
    refine XS.icmpYes X0.here hx rfl (pc0 := 12) (pc' := 21) rfl (hb hby d6_12) rfl (tlt hc12).2.2.1 (by decide) (by decide) ?_
    show Steps p.tables e below (s₁.setTop (mkF m 21 #[.val (.ref a1), .val (.int p2), .val (.int (0 : Int32))] [])) _
    refine XS.iloadN X0.here hx rfl (hb hby d6_21) rfl ?_
    show Steps p.tables e below (s₁.setTop (mkF m 22 #[.val (.ref a1), .val (.int p2), .val (.int (0 : Int32))] [(.int (0 : Int32))])) _
    exact retI X0 hx Bd.returns (hb hby d6_22) hr
  · show QP (some (.int (0 : Int32))) h0 n0 _ s₁.heap _
    rw [e0]
    exact ⟨rfl, N0, rfl⟩
set_option maxRecDepth 65536 in
set_option maxHeartbeats 40000000 in
theorem rm6_2ft (l : Launch) (Z : State) (a0 : Array Value) (hw : ∀ d ∈ tables_1, d.before a0 Z = true) (ws : List Jvm.Cond) (a1 : Addr) (p2 : Int32) (cl_a1 : Cell) (w3 : Int32) (w4 : Int32) (h0 : Heap) (n0 : Nat) (Z0 : n0 ≤ h0.size) (Ar_a1 : Arr Z h0 a1 cl_a1 .int) (S_a1 : cl_a1.slots.size = (2 : Int32).toNatClampNeg) (N_a1 : ¬ (2 : Int32) < 0) (hin10 : ¬ ((0 : Int32) < 0 ∨ cl_a1.slots.size ≤ ((0 : Int32)).toNatClampNeg)) (hat10 : cl_a1.slots[((0 : Int32)).toNatClampNeg]? = some (.int w3)) (hin10_2 : ¬ ((1 : Int32) < 0 ∨ cl_a1.slots.size ≤ ((1 : Int32)).toNatClampNeg)) (hat10_2 : cl_a1.slots[((1 : Int32)).toNatClampNeg]? = some (.int w4)) (hc12 : ¬ (p2 < w3)) (hc12_2 : p2 < w4) :
    MetFree l (⟨"com/example/pesquisa/pesquisa/Measure", "foundBy", "([II)I"⟩ : MethodName) (head1 (Jvm.Cond.code (⟨"com/example/pesquisa/pesquisa/Measure", "foundBy", "([II)I"⟩ : MethodName) prog_6_method_7_code 3 (some .int) :: ws) ({ frames := 0, cells := 0, slots := 0, locals := 0 } : Room)) (fun a U => a = #[(.ref a1), (.int p2)] ∧ Z.Warmed39 U.vm ∧ U.heap = h0) (fun _ _ _ _ _ => True) (fun _ U o U' => ∃ v L, o = .returned v ∧ QP (some (.int (1 : Int32))) h0 n0 v U'.heap L ∧ FrameEnd U o U' L ({ frames := 0, cells := 0, slots := 0, locals := 0 } : Room).cells ({ frames := 0, cells := 0, slots := 0, locals := 0 } : Room).slots) := by
  refine MetFree.of_bodySF (plainFor_of_name pn_6) hisR ?_
  intro p e s m args below meth c s₁ Bd hml0 hP hK
  obtain ⟨rfl, hZ, hh⟩ := hP
  have hx := Bd.exec
  have hby := Bd.bytes
  have hml : c.maxLocals = 3 := hml0
  have hown : s.vm.findClass "com/example/pesquisa/pesquisa/Measure" = some m.cls := findClass_of_methodNamed Bd.named
  have hnm := (name_of_methodNamed Bd.named Bd.method).1
  have X0 : Stand p l e ({ frames := 0, cells := 0, slots := 0, locals := 0 } : Room) s m #[(.ref a1), (.int p2)] below meth c s₁ [] 0 0 := Stand.of_body Bd
  have e0 : s₁.heap = h0 := by rw [← hh, Bd.state]; rfl
  have N0 := Fr.nil n0
  have pre0 : ∀ t, Steps p.tables e below (s₁.setTop (mkF m 0 #[.val (.ref a1), .val (.int p2), .unset] [])) t → Steps p.tables e below (s₁.setTop (entryFrame m #[(.ref a1), (.int p2)] 3)) t := fun t k => castTop (ef_6 m a1 p2) k

  obtain ⟨fs, hr, hrun, hended, hW, hsame⟩ := X0.leave (v := some (.int (1 : Int32))) (fun h => by rw [Bd.returns] at h; cases h)
  refine ⟨_, _, pre0 _ ?_, hrun, hended, _, _, rfl, ?_, ⟨_, rfl⟩, hW, hsame.mono (by decide) (by decide)⟩
  · show Steps p.tables e below (s₁.setTop (mkF m 0 #[.val (.ref a1), .val (.int p2), .unset] [])) _
    refine XS.iconst X0.here hx rfl (hb hby d6_0) ?_
    show Steps p.tables e below (s₁.setTop (mkF m 1 #[.val (.ref a1), .val (.int p2), .unset] [(.int (0 : Int32))])) _
    refine XS.istoreN X0.here hx rfl (hb hby d6_1) rfl (l' := #[.val (.ref a1), .val (.int p2), .val (.int (0 : Int32))]) rfl ?_
    show Steps p.tables e below (s₁.setTop (mkF m 2 #[.val (.ref a1), .val (.int p2), .val (.int (0 : Int32))] [])) _
    refine XS.iloadN X0.here hx rfl (hb hby d6_2) rfl ?_
    show Steps p.tables e below (s₁.setTop (mkF m 3 #[.val (.ref a1), .val (.int p2), .val (.int (0 : Int32))] [(.int (0 : Int32))])) _
    refine XS.aloadN X0.here hx rfl (hb hby d6_3) rfl rfl ?_
    show Steps p.tables e below (s₁.setTop (mkF m 4 #[.val (.ref a1), .val (.int p2), .val (.int (0 : Int32))] [(.ref a1), (.int (0 : Int32))])) _
    refine X0.arraylength hx (by rw [e0]; exact Ar_a1.1) (State.isArrayOf_alike hZ.alike Ar_a1.2.1) (g := (mkF m 4 #[.val (.ref a1), .val (.int p2), .val (.int (0 : Int32))] [(.ref a1), (.int (0 : Int32))])) rfl rfl (hb hby d6_4) _ ?_
    rw [len_of S_a1 N_a1]
    show Steps p.tables e below (s₁.setTop (mkF m 5 #[.val (.ref a1), .val (.int p2), .val (.int (0 : Int32))] [(.int (2 : Int32)), (.int (0 : Int32))])) _
    refine XS.icmpNo X0.here hx rfl (hb hby d6_5) rfl (tlt (by decide : (0 : Int32) < (2 : Int32))).2.1 ?_
    show Steps p.tables e below (s₁.setTop (mkF m 8 #[.val (.ref a1), .val (.int p2), .val (.int (0 : Int32))] [])) _
    refine XS.aloadN X0.here hx rfl (hb hby d6_8) rfl rfl ?_
    show Steps p.tables e below (s₁.setTop (mkF m 9 #[.val (.ref a1), .val (.int p2), .val (.int (0 : Int32))] [(.ref a1)])) _
    refine XS.iloadN X0.here hx rfl (hb hby d6_9) rfl ?_
    show Steps p.tables e below (s₁.setTop (mkF m 10 #[.val (.ref a1), .val (.int p2), .val (.int (0 : Int32))] [(.int (0 : Int32)), (.ref a1)])) _
    refine X0.iaload hx (j := (0 : Int32)) (v := (.int w3)) (by rw [e0]; exact Ar_a1.1) (State.isArrayOf_alike hZ.alike Ar_a1.2.1) Ar_a1.2.2 hin10 hat10 (g := (mkF m 10 #[.val (.ref a1), .val (.int p2), .val (.int (0 : Int32))] [(.int (0 : Int32)), (.ref a1)])) rfl rfl (hb hby d6_10) _ ?_
    show Steps p.tables e below (s₁.setTop (mkF m 11 #[.val (.ref a1), .val (.int p2), .val (.int (0 : Int32))] [(.int w3)])) _
    refine XS.iloadN X0.here hx rfl (hb hby d6_11) rfl ?_
    show Steps p.tables e below (s₁.setTop (mkF m 12 #[.val (.ref a1), .val (.int p2), .val (.int (0 : Int32))] [(.int p2), (.int w3)])) _
    refine XS.icmpNo X0.here hx rfl (hb hby d6_12) rfl (flt hc12).2.2.1 ?_
    show Steps p.tables e below (s₁.setTop (mkF m 15 #[.val (.ref a1), .val (.int p2), .val (.int (0 : Int32))] [])) _
    refine XS.iinc X0.here hx rfl (hb hby d6_15) rfl (l' := #[.val (.ref a1), .val (.int p2), .val (.int (1 : Int32))]) rfl ?_
    show Steps p.tables e below (s₁.setTop (mkF m 18 #[.val (.ref a1), .val (.int p2), .val (.int (1 : Int32))] [])) _
    refine XS.goto X0.here hx rfl (pc0 := 18) (pc' := 2) rfl (hb hby d6_18) (by decide) (by decide) ?_
    show Steps p.tables e below (s₁.setTop (mkF m 2 #[.val (.ref a1), .val (.int p2), .val (.int (1 : Int32))] [])) _
    refine XS.iloadN X0.here hx rfl (hb hby d6_2) rfl ?_
    show Steps p.tables e below (s₁.setTop (mkF m 3 #[.val (.ref a1), .val (.int p2), .val (.int (1 : Int32))] [(.int (1 : Int32))])) _
    refine XS.aloadN X0.here hx rfl (hb hby d6_3) rfl rfl ?_
    show Steps p.tables e below (s₁.setTop (mkF m 4 #[.val (.ref a1), .val (.int p2), .val (.int (1 : Int32))] [(.ref a1), (.int (1 : Int32))])) _
    refine X0.arraylength hx (by rw [e0]; exact Ar_a1.1) (State.isArrayOf_alike hZ.alike Ar_a1.2.1) (g := (mkF m 4 #[.val (.ref a1), .val (.int p2), .val (.int (1 : Int32))] [(.ref a1), (.int (1 : Int32))])) rfl rfl (hb hby d6_4) _ ?_
    rw [len_of S_a1 N_a1]
    show Steps p.tables e below (s₁.setTop (mkF m 5 #[.val (.ref a1), .val (.int p2), .val (.int (1 : Int32))] [(.int (2 : Int32)), (.int (1 : Int32))])) _
    refine XS.icmpNo X0.here hx rfl (hb hby d6_5) rfl (tlt (by decide : (1 : Int32) < (2 : Int32))).2.1 ?_
    show Steps p.tables e below (s₁.setTop (mkF m 8 #[.val (.ref a1), .val (.int p2), .val (.int (1 : Int32))] [])) _
    refine XS.aloadN X0.here hx rfl (hb hby d6_8) rfl rfl ?_
    show Steps p.tables e below (s₁.setTop (mkF m 9 #[.val (.ref a1), .val (.int p2), .val (.int (1 : Int32))] [(.ref a1)])) _
    refine XS.iloadN X0.here hx rfl (hb hby d6_9) rfl ?_
    show Steps p.tables e below (s₁.setTop (mkF m 10 #[.val (.ref a1), .val (.int p2), .val (.int (1 : Int32))] [(.int (1 : Int32)), (.ref a1)])) _
    refine X0.iaload hx (j := (1 : Int32)) (v := (.int w4)) (by rw [e0]; exact Ar_a1.1) (State.isArrayOf_alike hZ.alike Ar_a1.2.1) Ar_a1.2.2 hin10_2 hat10_2 (g := (mkF m 10 #[.val (.ref a1), .val (.int p2), .val (.int (1 : Int32))] [(.int (1 : Int32)), (.ref a1)])) rfl rfl (hb hby d6_10) _ ?_
    show Steps p.tables e below (s₁.setTop (mkF m 11 #[.val (.ref a1), .val (.int p2), .val (.int (1 : Int32))] [(.int w4)])) _
    refine XS.iloadN X0.here hx rfl (hb hby d6_11) rfl ?_
    show Steps p.tables e below (s₁.setTop (mkF m 12 #[.val (.ref a1), .val (.int p2), .val (.int (1 : Int32))] [(.int p2), (.int w4)])) _
    refine XS.icmpYes X0.here hx rfl (pc0 := 12) (pc' := 21) rfl (hb hby d6_12) rfl (tlt hc12_2).2.2.1 (by decide) (by decide) ?_
    show Steps p.tables e below (s₁.setTop (mkF m 21 #[.val (.ref a1), .val (.int p2), .val (.int (1 : Int32))] [])) _
    refine XS.iloadN X0.here hx rfl (hb hby d6_21) rfl ?_
    show Steps p.tables e below (s₁.setTop (mkF m 22 #[.val (.ref a1), .val (.int p2), .val (.int (1 : Int32))] [(.int (1 : Int32))])) _
    exact retI X0 hx Bd.returns (hb hby d6_22) hr
  · show QP (some (.int (1 : Int32))) h0 n0 _ s₁.heap _
    rw [e0]
    exact ⟨rfl, N0, rfl⟩
set_option maxRecDepth 65536 in
set_option maxHeartbeats 40000000 in
theorem rm6_2ff (l : Launch) (Z : State) (a0 : Array Value) (hw : ∀ d ∈ tables_1, d.before a0 Z = true) (ws : List Jvm.Cond) (a1 : Addr) (p2 : Int32) (cl_a1 : Cell) (w3 : Int32) (w4 : Int32) (h0 : Heap) (n0 : Nat) (Z0 : n0 ≤ h0.size) (Ar_a1 : Arr Z h0 a1 cl_a1 .int) (S_a1 : cl_a1.slots.size = (2 : Int32).toNatClampNeg) (N_a1 : ¬ (2 : Int32) < 0) (hin10 : ¬ ((0 : Int32) < 0 ∨ cl_a1.slots.size ≤ ((0 : Int32)).toNatClampNeg)) (hat10 : cl_a1.slots[((0 : Int32)).toNatClampNeg]? = some (.int w3)) (hin10_2 : ¬ ((1 : Int32) < 0 ∨ cl_a1.slots.size ≤ ((1 : Int32)).toNatClampNeg)) (hat10_2 : cl_a1.slots[((1 : Int32)).toNatClampNeg]? = some (.int w4)) (hc12 : ¬ (p2 < w3)) (hc12_2 : ¬ (p2 < w4)) :
    MetFree l (⟨"com/example/pesquisa/pesquisa/Measure", "foundBy", "([II)I"⟩ : MethodName) (head1 (Jvm.Cond.code (⟨"com/example/pesquisa/pesquisa/Measure", "foundBy", "([II)I"⟩ : MethodName) prog_6_method_7_code 3 (some .int) :: ws) ({ frames := 0, cells := 0, slots := 0, locals := 0 } : Room)) (fun a U => a = #[(.ref a1), (.int p2)] ∧ Z.Warmed39 U.vm ∧ U.heap = h0) (fun _ _ _ _ _ => True) (fun _ U o U' => ∃ v L, o = .returned v ∧ QP (some (.int (2 : Int32))) h0 n0 v U'.heap L ∧ FrameEnd U o U' L ({ frames := 0, cells := 0, slots := 0, locals := 0 } : Room).cells ({ frames := 0, cells := 0, slots := 0, locals := 0 } : Room).slots) := by
  refine MetFree.of_bodySF (plainFor_of_name pn_6) hisR ?_
  intro p e s m args below meth c s₁ Bd hml0 hP hK
  obtain ⟨rfl, hZ, hh⟩ := hP
  have hx := Bd.exec
  have hby := Bd.bytes
  have hml : c.maxLocals = 3 := hml0
  have hown : s.vm.findClass "com/example/pesquisa/pesquisa/Measure" = some m.cls := findClass_of_methodNamed Bd.named
  have hnm := (name_of_methodNamed Bd.named Bd.method).1
  have X0 : Stand p l e ({ frames := 0, cells := 0, slots := 0, locals := 0 } : Room) s m #[(.ref a1), (.int p2)] below meth c s₁ [] 0 0 := Stand.of_body Bd
  have e0 : s₁.heap = h0 := by rw [← hh, Bd.state]; rfl
  have N0 := Fr.nil n0
  have pre0 : ∀ t, Steps p.tables e below (s₁.setTop (mkF m 0 #[.val (.ref a1), .val (.int p2), .unset] [])) t → Steps p.tables e below (s₁.setTop (entryFrame m #[(.ref a1), (.int p2)] 3)) t := fun t k => castTop (ef_6 m a1 p2) k

  obtain ⟨fs, hr, hrun, hended, hW, hsame⟩ := X0.leave (v := some (.int (2 : Int32))) (fun h => by rw [Bd.returns] at h; cases h)
  refine ⟨_, _, pre0 _ ?_, hrun, hended, _, _, rfl, ?_, ⟨_, rfl⟩, hW, hsame.mono (by decide) (by decide)⟩
  · show Steps p.tables e below (s₁.setTop (mkF m 0 #[.val (.ref a1), .val (.int p2), .unset] [])) _
    refine XS.iconst X0.here hx rfl (hb hby d6_0) ?_
    show Steps p.tables e below (s₁.setTop (mkF m 1 #[.val (.ref a1), .val (.int p2), .unset] [(.int (0 : Int32))])) _
    refine XS.istoreN X0.here hx rfl (hb hby d6_1) rfl (l' := #[.val (.ref a1), .val (.int p2), .val (.int (0 : Int32))]) rfl ?_
    show Steps p.tables e below (s₁.setTop (mkF m 2 #[.val (.ref a1), .val (.int p2), .val (.int (0 : Int32))] [])) _
    refine XS.iloadN X0.here hx rfl (hb hby d6_2) rfl ?_
    show Steps p.tables e below (s₁.setTop (mkF m 3 #[.val (.ref a1), .val (.int p2), .val (.int (0 : Int32))] [(.int (0 : Int32))])) _
    refine XS.aloadN X0.here hx rfl (hb hby d6_3) rfl rfl ?_
    show Steps p.tables e below (s₁.setTop (mkF m 4 #[.val (.ref a1), .val (.int p2), .val (.int (0 : Int32))] [(.ref a1), (.int (0 : Int32))])) _
    refine X0.arraylength hx (by rw [e0]; exact Ar_a1.1) (State.isArrayOf_alike hZ.alike Ar_a1.2.1) (g := (mkF m 4 #[.val (.ref a1), .val (.int p2), .val (.int (0 : Int32))] [(.ref a1), (.int (0 : Int32))])) rfl rfl (hb hby d6_4) _ ?_
    rw [len_of S_a1 N_a1]
    show Steps p.tables e below (s₁.setTop (mkF m 5 #[.val (.ref a1), .val (.int p2), .val (.int (0 : Int32))] [(.int (2 : Int32)), (.int (0 : Int32))])) _
    refine XS.icmpNo X0.here hx rfl (hb hby d6_5) rfl (tlt (by decide : (0 : Int32) < (2 : Int32))).2.1 ?_
    show Steps p.tables e below (s₁.setTop (mkF m 8 #[.val (.ref a1), .val (.int p2), .val (.int (0 : Int32))] [])) _
    refine XS.aloadN X0.here hx rfl (hb hby d6_8) rfl rfl ?_
    show Steps p.tables e below (s₁.setTop (mkF m 9 #[.val (.ref a1), .val (.int p2), .val (.int (0 : Int32))] [(.ref a1)])) _
    refine XS.iloadN X0.here hx rfl (hb hby d6_9) rfl ?_
    show Steps p.tables e below (s₁.setTop (mkF m 10 #[.val (.ref a1), .val (.int p2), .val (.int (0 : Int32))] [(.int (0 : Int32)), (.ref a1)])) _
    refine X0.iaload hx (j := (0 : Int32)) (v := (.int w3)) (by rw [e0]; exact Ar_a1.1) (State.isArrayOf_alike hZ.alike Ar_a1.2.1) Ar_a1.2.2 hin10 hat10 (g := (mkF m 10 #[.val (.ref a1), .val (.int p2), .val (.int (0 : Int32))] [(.int (0 : Int32)), (.ref a1)])) rfl rfl (hb hby d6_10) _ ?_
    show Steps p.tables e below (s₁.setTop (mkF m 11 #[.val (.ref a1), .val (.int p2), .val (.int (0 : Int32))] [(.int w3)])) _
    refine XS.iloadN X0.here hx rfl (hb hby d6_11) rfl ?_
    show Steps p.tables e below (s₁.setTop (mkF m 12 #[.val (.ref a1), .val (.int p2), .val (.int (0 : Int32))] [(.int p2), (.int w3)])) _
    refine XS.icmpNo X0.here hx rfl (hb hby d6_12) rfl (flt hc12).2.2.1 ?_
    show Steps p.tables e below (s₁.setTop (mkF m 15 #[.val (.ref a1), .val (.int p2), .val (.int (0 : Int32))] [])) _
    refine XS.iinc X0.here hx rfl (hb hby d6_15) rfl (l' := #[.val (.ref a1), .val (.int p2), .val (.int (1 : Int32))]) rfl ?_
    show Steps p.tables e below (s₁.setTop (mkF m 18 #[.val (.ref a1), .val (.int p2), .val (.int (1 : Int32))] [])) _
    refine XS.goto X0.here hx rfl (pc0 := 18) (pc' := 2) rfl (hb hby d6_18) (by decide) (by decide) ?_
    show Steps p.tables e below (s₁.setTop (mkF m 2 #[.val (.ref a1), .val (.int p2), .val (.int (1 : Int32))] [])) _
    refine XS.iloadN X0.here hx rfl (hb hby d6_2) rfl ?_
    show Steps p.tables e below (s₁.setTop (mkF m 3 #[.val (.ref a1), .val (.int p2), .val (.int (1 : Int32))] [(.int (1 : Int32))])) _
    refine XS.aloadN X0.here hx rfl (hb hby d6_3) rfl rfl ?_
    show Steps p.tables e below (s₁.setTop (mkF m 4 #[.val (.ref a1), .val (.int p2), .val (.int (1 : Int32))] [(.ref a1), (.int (1 : Int32))])) _
    refine X0.arraylength hx (by rw [e0]; exact Ar_a1.1) (State.isArrayOf_alike hZ.alike Ar_a1.2.1) (g := (mkF m 4 #[.val (.ref a1), .val (.int p2), .val (.int (1 : Int32))] [(.ref a1), (.int (1 : Int32))])) rfl rfl (hb hby d6_4) _ ?_
    rw [len_of S_a1 N_a1]
    show Steps p.tables e below (s₁.setTop (mkF m 5 #[.val (.ref a1), .val (.int p2), .val (.int (1 : Int32))] [(.int (2 : Int32)), (.int (1 : Int32))])) _
    refine XS.icmpNo X0.here hx rfl (hb hby d6_5) rfl (tlt (by decide : (1 : Int32) < (2 : Int32))).2.1 ?_
    show Steps p.tables e below (s₁.setTop (mkF m 8 #[.val (.ref a1), .val (.int p2), .val (.int (1 : Int32))] [])) _
    refine XS.aloadN X0.here hx rfl (hb hby d6_8) rfl rfl ?_
    show Steps p.tables e below (s₁.setTop (mkF m 9 #[.val (.ref a1), .val (.int p2), .val (.int (1 : Int32))] [(.ref a1)])) _
    refine XS.iloadN X0.here hx rfl (hb hby d6_9) rfl ?_
    show Steps p.tables e below (s₁.setTop (mkF m 10 #[.val (.ref a1), .val (.int p2), .val (.int (1 : Int32))] [(.int (1 : Int32)), (.ref a1)])) _
    refine X0.iaload hx (j := (1 : Int32)) (v := (.int w4)) (by rw [e0]; exact Ar_a1.1) (State.isArrayOf_alike hZ.alike Ar_a1.2.1) Ar_a1.2.2 hin10_2 hat10_2 (g := (mkF m 10 #[.val (.ref a1), .val (.int p2), .val (.int (1 : Int32))] [(.int (1 : Int32)), (.ref a1)])) rfl rfl (hb hby d6_10) _ ?_
    show Steps p.tables e below (s₁.setTop (mkF m 11 #[.val (.ref a1), .val (.int p2), .val (.int (1 : Int32))] [(.int w4)])) _
    refine XS.iloadN X0.here hx rfl (hb hby d6_11) rfl ?_
    show Steps p.tables e below (s₁.setTop (mkF m 12 #[.val (.ref a1), .val (.int p2), .val (.int (1 : Int32))] [(.int p2), (.int w4)])) _
    refine XS.icmpNo X0.here hx rfl (hb hby d6_12) rfl (flt hc12_2).2.2.1 ?_
    show Steps p.tables e below (s₁.setTop (mkF m 15 #[.val (.ref a1), .val (.int p2), .val (.int (1 : Int32))] [])) _
    refine XS.iinc X0.here hx rfl (hb hby d6_15) rfl (l' := #[.val (.ref a1), .val (.int p2), .val (.int (2 : Int32))]) rfl ?_
    show Steps p.tables e below (s₁.setTop (mkF m 18 #[.val (.ref a1), .val (.int p2), .val (.int (2 : Int32))] [])) _
    refine XS.goto X0.here hx rfl (pc0 := 18) (pc' := 2) rfl (hb hby d6_18) (by decide) (by decide) ?_
    show Steps p.tables e below (s₁.setTop (mkF m 2 #[.val (.ref a1), .val (.int p2), .val (.int (2 : Int32))] [])) _
    refine XS.iloadN X0.here hx rfl (hb hby d6_2) rfl ?_
    show Steps p.tables e below (s₁.setTop (mkF m 3 #[.val (.ref a1), .val (.int p2), .val (.int (2 : Int32))] [(.int (2 : Int32))])) _
    refine XS.aloadN X0.here hx rfl (hb hby d6_3) rfl rfl ?_
    show Steps p.tables e below (s₁.setTop (mkF m 4 #[.val (.ref a1), .val (.int p2), .val (.int (2 : Int32))] [(.ref a1), (.int (2 : Int32))])) _
    refine X0.arraylength hx (by rw [e0]; exact Ar_a1.1) (State.isArrayOf_alike hZ.alike Ar_a1.2.1) (g := (mkF m 4 #[.val (.ref a1), .val (.int p2), .val (.int (2 : Int32))] [(.ref a1), (.int (2 : Int32))])) rfl rfl (hb hby d6_4) _ ?_
    rw [len_of S_a1 N_a1]
    show Steps p.tables e below (s₁.setTop (mkF m 5 #[.val (.ref a1), .val (.int p2), .val (.int (2 : Int32))] [(.int (2 : Int32)), (.int (2 : Int32))])) _
    refine XS.icmpYes X0.here hx rfl (pc0 := 5) (pc' := 21) rfl (hb hby d6_5) rfl (flt (by decide : ¬ ((2 : Int32) < (2 : Int32)))).2.1 (by decide) (by decide) ?_
    show Steps p.tables e below (s₁.setTop (mkF m 21 #[.val (.ref a1), .val (.int p2), .val (.int (2 : Int32))] [])) _
    refine XS.iloadN X0.here hx rfl (hb hby d6_21) rfl ?_
    show Steps p.tables e below (s₁.setTop (mkF m 22 #[.val (.ref a1), .val (.int p2), .val (.int (2 : Int32))] [(.int (2 : Int32))])) _
    exact retI X0 hx Bd.returns (hb hby d6_22) hr
  · show QP (some (.int (2 : Int32))) h0 n0 _ s₁.heap _
    rw [e0]
    exact ⟨rfl, N0, rfl⟩
set_option maxRecDepth 65536 in
set_option maxHeartbeats 40000000 in
theorem rm5_3 (l : Launch) (Z : State) (a0 : Array Value) (hw : ∀ d ∈ tables_1, d.before a0 Z = true) (ws : List Jvm.Cond) (a1 : Addr) (p2 : Int32) (cl_a1 : Cell) (w3 : Int32) (r23 : UInt64) (r24 : UInt64) (w4 : Int32) (r23_2 : UInt64) (r24_2 : UInt64) (w5 : Int32) (r23_3 : UInt64) (r24_3 : UInt64) (r35 : UInt64) (h0 : Heap) (n0 : Nat) (Z0 : n0 ≤ h0.size) (Ar_a1 : Arr Z h0 a1 cl_a1 .int) (S_a1 : cl_a1.slots.size = (3 : Int32).toNatClampNeg) (N_a1 : ¬ (3 : Int32) < 0) (hin21 : ¬ ((0 : Int32) < 0 ∨ cl_a1.slots.size ≤ ((0 : Int32)).toNatClampNeg)) (hat21 : cl_a1.slots[((0 : Int32)).toNatClampNeg]? = some (.int w3)) (hin21_2 : ¬ ((1 : Int32) < 0 ∨ cl_a1.slots.size ≤ ((1 : Int32)).toNatClampNeg)) (hat21_2 : cl_a1.slots[((1 : Int32)).toNatClampNeg]? = some (.int w4)) (hin21_3 : ¬ ((2 : Int32) < 0 ∨ cl_a1.slots.size ≤ ((2 : Int32)).toNatClampNeg)) (hat21_3 : cl_a1.slots[((2 : Int32)).toNatClampNeg]? = some (.int w5)) (hv23 : (FP.ddiv (FP.i2d (1 : Int32)) (FP.i2d w3)) = r23) (hn23 : Jvm.Free.Fl.NoNaN64 (FP.ddiv (FP.i2d (1 : Int32)) (FP.i2d w3))) (hv24 : (FP.dadd FP.dconst0 r23) = r24) (hn24 : Jvm.Free.Fl.NoNaN64 (FP.dadd FP.dconst0 r23)) (hv23_2 : (FP.ddiv (FP.i2d (2 : Int32)) (FP.i2d w4)) = r23_2) (hn23_2 : Jvm.Free.Fl.NoNaN64 (FP.ddiv (FP.i2d (2 : Int32)) (FP.i2d w4))) (hv24_2 : (FP.dadd r24 r23_2) = r24_2) (hn24_2 : Jvm.Free.Fl.NoNaN64 (FP.dadd r24 r23_2)) (hv23_3 : (FP.ddiv (FP.i2d (3 : Int32)) (FP.i2d w5)) = r23_3) (hn23_3 : Jvm.Free.Fl.NoNaN64 (FP.ddiv (FP.i2d (3 : Int32)) (FP.i2d w5))) (hv24_3 : (FP.dadd r24_2 r23_3) = r24_3) (hn24_3 : Jvm.Free.Fl.NoNaN64 (FP.dadd r24_2 r23_3)) (hv35 : (FP.ddiv r24_3 (FP.i2d p2)) = r35) (hn35 : Jvm.Free.Fl.NoNaN64 (FP.ddiv r24_3 (FP.i2d p2))) :
    MetFree l (⟨"com/example/pesquisa/pesquisa/Measure", "averagePrecision", "([II)D"⟩ : MethodName) (head1 (Jvm.Cond.code (⟨"com/example/pesquisa/pesquisa/Measure", "averagePrecision", "([II)D"⟩ : MethodName) prog_6_method_6_code 5 (some .double) :: ws) ({ frames := 0, cells := 0, slots := 0, locals := 0 } : Room)) (fun a U => a = #[(.ref a1), (.int p2)] ∧ Z.Warmed39 U.vm ∧ U.heap = h0) (fun _ _ _ _ _ => True) (fun _ U o U' => ∃ v L, o = .returned v ∧ QP (some (.double r35)) h0 n0 v U'.heap L ∧ FrameEnd U o U' L ({ frames := 0, cells := 0, slots := 0, locals := 0 } : Room).cells ({ frames := 0, cells := 0, slots := 0, locals := 0 } : Room).slots) := by
  refine MetFree.of_bodySF (plainFor_of_name pn_5) hisR ?_
  intro p e s m args below meth c s₁ Bd hml0 hP hK
  obtain ⟨rfl, hZ, hh⟩ := hP
  have hx := Bd.exec
  have hby := Bd.bytes
  have hml : c.maxLocals = 5 := hml0
  have hown : s.vm.findClass "com/example/pesquisa/pesquisa/Measure" = some m.cls := findClass_of_methodNamed Bd.named
  have hnm := (name_of_methodNamed Bd.named Bd.method).1
  have X0 : Stand p l e ({ frames := 0, cells := 0, slots := 0, locals := 0 } : Room) s m #[(.ref a1), (.int p2)] below meth c s₁ [] 0 0 := Stand.of_body Bd
  have e0 : s₁.heap = h0 := by rw [← hh, Bd.state]; rfl
  have N0 := Fr.nil n0
  have pre0 : ∀ t, Steps p.tables e below (s₁.setTop (mkF m 0 #[.val (.ref a1), .val (.int p2), .unset, .unset, .unset] [])) t → Steps p.tables e below (s₁.setTop (entryFrame m #[(.ref a1), (.int p2)] 5)) t := fun t k => castTop (ef_5 m a1 p2) k

  obtain ⟨fs, hr, hrun, hended, hW, hsame⟩ := X0.leave (v := some (.double r35)) (fun h => by rw [Bd.returns] at h; cases h)
  refine ⟨_, _, pre0 _ ?_, hrun, hended, _, _, rfl, ?_, ⟨_, rfl⟩, hW, hsame.mono (by decide) (by decide)⟩
  · show Steps p.tables e below (s₁.setTop (mkF m 0 #[.val (.ref a1), .val (.int p2), .unset, .unset, .unset] [])) _
    refine XS.dconst0 X0.here hx rfl (hb hby d5_0) rfl ?_
    show Steps p.tables e below (s₁.setTop (mkF m 1 #[.val (.ref a1), .val (.int p2), .unset, .unset, .unset] [(.double FP.dconst0)])) _
    refine XS.dstoreN X0.here hx rfl (hb hby d5_1) rfl (l' := #[.val (.ref a1), .val (.int p2), .val (.double FP.dconst0), .second, .unset]) rfl ?_
    show Steps p.tables e below (s₁.setTop (mkF m 2 #[.val (.ref a1), .val (.int p2), .val (.double FP.dconst0), .second, .unset] [])) _
    refine XS.iconst X0.here hx rfl (hb hby d5_2) ?_
    show Steps p.tables e below (s₁.setTop (mkF m 3 #[.val (.ref a1), .val (.int p2), .val (.double FP.dconst0), .second, .unset] [(.int (0 : Int32))])) _
    refine XS.istore X0.here hx rfl (hb hby d5_3) rfl (l' := #[.val (.ref a1), .val (.int p2), .val (.double FP.dconst0), .second, .val (.int (0 : Int32))]) rfl ?_
    show Steps p.tables e below (s₁.setTop (mkF m 5 #[.val (.ref a1), .val (.int p2), .val (.double FP.dconst0), .second, .val (.int (0 : Int32))] [])) _
    refine XS.iload X0.here hx rfl (hb hby d5_5) rfl ?_
    show Steps p.tables e below (s₁.setTop (mkF m 7 #[.val (.ref a1), .val (.int p2), .val (.double FP.dconst0), .second, .val (.int (0 : Int32))] [(.int (0 : Int32))])) _
    refine XS.aloadN X0.here hx rfl (hb hby d5_7) rfl rfl ?_
    show Steps p.tables e below (s₁.setTop (mkF m 8 #[.val (.ref a1), .val (.int p2), .val (.double FP.dconst0), .second, .val (.int (0 : Int32))] [(.ref a1), (.int (0 : Int32))])) _
    refine X0.arraylength hx (by rw [e0]; exact Ar_a1.1) (State.isArrayOf_alike hZ.alike Ar_a1.2.1) (g := (mkF m 8 #[.val (.ref a1), .val (.int p2), .val (.double FP.dconst0), .second, .val (.int (0 : Int32))] [(.ref a1), (.int (0 : Int32))])) rfl rfl (hb hby d5_8) _ ?_
    rw [len_of S_a1 N_a1]
    show Steps p.tables e below (s₁.setTop (mkF m 9 #[.val (.ref a1), .val (.int p2), .val (.double FP.dconst0), .second, .val (.int (0 : Int32))] [(.int (3 : Int32)), (.int (0 : Int32))])) _
    refine XS.icmpNo X0.here hx rfl (hb hby d5_9) rfl (tlt (by decide : (0 : Int32) < (3 : Int32))).2.1 ?_
    show Steps p.tables e below (s₁.setTop (mkF m 12 #[.val (.ref a1), .val (.int p2), .val (.double FP.dconst0), .second, .val (.int (0 : Int32))] [])) _
    refine XS.dloadN X0.here hx rfl (hb hby d5_12) rfl ?_
    show Steps p.tables e below (s₁.setTop (mkF m 13 #[.val (.ref a1), .val (.int p2), .val (.double FP.dconst0), .second, .val (.int (0 : Int32))] [(.double FP.dconst0)])) _
    refine XS.iload X0.here hx rfl (hb hby d5_13) rfl ?_
    show Steps p.tables e below (s₁.setTop (mkF m 15 #[.val (.ref a1), .val (.int p2), .val (.double FP.dconst0), .second, .val (.int (0 : Int32))] [(.int (0 : Int32)), (.double FP.dconst0)])) _
    refine XS.iconst X0.here hx rfl (hb hby d5_15) ?_
    show Steps p.tables e below (s₁.setTop (mkF m 16 #[.val (.ref a1), .val (.int p2), .val (.double FP.dconst0), .second, .val (.int (0 : Int32))] [(.int (1 : Int32)), (.int (0 : Int32)), (.double FP.dconst0)])) _
    refine XS.iadd X0.here hx rfl (hb hby d5_16) rfl ?_
    show Steps p.tables e below (s₁.setTop (mkF m 17 #[.val (.ref a1), .val (.int p2), .val (.double FP.dconst0), .second, .val (.int (0 : Int32))] [(.int (1 : Int32)), (.double FP.dconst0)])) _
    refine XS.i2dS X0.here hx rfl (hb hby d5_17) rfl rfl ?_
    show Steps p.tables e below (s₁.setTop (mkF m 18 #[.val (.ref a1), .val (.int p2), .val (.double FP.dconst0), .second, .val (.int (0 : Int32))] [(.double (FP.i2d (1 : Int32))), (.double FP.dconst0)])) _
    refine XS.aloadN X0.here hx rfl (hb hby d5_18) rfl rfl ?_
    show Steps p.tables e below (s₁.setTop (mkF m 19 #[.val (.ref a1), .val (.int p2), .val (.double FP.dconst0), .second, .val (.int (0 : Int32))] [(.ref a1), (.double (FP.i2d (1 : Int32))), (.double FP.dconst0)])) _
    refine XS.iload X0.here hx rfl (hb hby d5_19) rfl ?_
    show Steps p.tables e below (s₁.setTop (mkF m 21 #[.val (.ref a1), .val (.int p2), .val (.double FP.dconst0), .second, .val (.int (0 : Int32))] [(.int (0 : Int32)), (.ref a1), (.double (FP.i2d (1 : Int32))), (.double FP.dconst0)])) _
    refine X0.iaload hx (j := (0 : Int32)) (v := (.int w3)) (by rw [e0]; exact Ar_a1.1) (State.isArrayOf_alike hZ.alike Ar_a1.2.1) Ar_a1.2.2 hin21 hat21 (g := (mkF m 21 #[.val (.ref a1), .val (.int p2), .val (.double FP.dconst0), .second, .val (.int (0 : Int32))] [(.int (0 : Int32)), (.ref a1), (.double (FP.i2d (1 : Int32))), (.double FP.dconst0)])) rfl rfl (hb hby d5_21) _ ?_
    show Steps p.tables e below (s₁.setTop (mkF m 22 #[.val (.ref a1), .val (.int p2), .val (.double FP.dconst0), .second, .val (.int (0 : Int32))] [(.int w3), (.double (FP.i2d (1 : Int32))), (.double FP.dconst0)])) _
    refine XS.i2dS X0.here hx rfl (hb hby d5_22) rfl rfl ?_
    show Steps p.tables e below (s₁.setTop (mkF m 23 #[.val (.ref a1), .val (.int p2), .val (.double FP.dconst0), .second, .val (.int (0 : Int32))] [(.double (FP.i2d w3)), (.double (FP.i2d (1 : Int32))), (.double FP.dconst0)])) _
    refine XS.ddivS X0.here hx rfl (hb hby d5_23) rfl hn23 hv23 ?_
    show Steps p.tables e below (s₁.setTop (mkF m 24 #[.val (.ref a1), .val (.int p2), .val (.double FP.dconst0), .second, .val (.int (0 : Int32))] [(.double r23), (.double FP.dconst0)])) _
    refine XS.daddS X0.here hx rfl (hb hby d5_24) rfl hn24 hv24 ?_
    show Steps p.tables e below (s₁.setTop (mkF m 25 #[.val (.ref a1), .val (.int p2), .val (.double FP.dconst0), .second, .val (.int (0 : Int32))] [(.double r24)])) _
    refine XS.dstoreN X0.here hx rfl (hb hby d5_25) rfl (l' := #[.val (.ref a1), .val (.int p2), .val (.double r24), .second, .val (.int (0 : Int32))]) rfl ?_
    show Steps p.tables e below (s₁.setTop (mkF m 26 #[.val (.ref a1), .val (.int p2), .val (.double r24), .second, .val (.int (0 : Int32))] [])) _
    refine XS.iinc X0.here hx rfl (hb hby d5_26) rfl (l' := #[.val (.ref a1), .val (.int p2), .val (.double r24), .second, .val (.int (1 : Int32))]) rfl ?_
    show Steps p.tables e below (s₁.setTop (mkF m 29 #[.val (.ref a1), .val (.int p2), .val (.double r24), .second, .val (.int (1 : Int32))] [])) _
    refine XS.goto X0.here hx rfl (pc0 := 29) (pc' := 5) rfl (hb hby d5_29) (by decide) (by decide) ?_
    show Steps p.tables e below (s₁.setTop (mkF m 5 #[.val (.ref a1), .val (.int p2), .val (.double r24), .second, .val (.int (1 : Int32))] [])) _
    refine XS.iload X0.here hx rfl (hb hby d5_5) rfl ?_
    show Steps p.tables e below (s₁.setTop (mkF m 7 #[.val (.ref a1), .val (.int p2), .val (.double r24), .second, .val (.int (1 : Int32))] [(.int (1 : Int32))])) _
    refine XS.aloadN X0.here hx rfl (hb hby d5_7) rfl rfl ?_
    show Steps p.tables e below (s₁.setTop (mkF m 8 #[.val (.ref a1), .val (.int p2), .val (.double r24), .second, .val (.int (1 : Int32))] [(.ref a1), (.int (1 : Int32))])) _
    refine X0.arraylength hx (by rw [e0]; exact Ar_a1.1) (State.isArrayOf_alike hZ.alike Ar_a1.2.1) (g := (mkF m 8 #[.val (.ref a1), .val (.int p2), .val (.double r24), .second, .val (.int (1 : Int32))] [(.ref a1), (.int (1 : Int32))])) rfl rfl (hb hby d5_8) _ ?_
    rw [len_of S_a1 N_a1]
    show Steps p.tables e below (s₁.setTop (mkF m 9 #[.val (.ref a1), .val (.int p2), .val (.double r24), .second, .val (.int (1 : Int32))] [(.int (3 : Int32)), (.int (1 : Int32))])) _
    refine XS.icmpNo X0.here hx rfl (hb hby d5_9) rfl (tlt (by decide : (1 : Int32) < (3 : Int32))).2.1 ?_
    show Steps p.tables e below (s₁.setTop (mkF m 12 #[.val (.ref a1), .val (.int p2), .val (.double r24), .second, .val (.int (1 : Int32))] [])) _
    refine XS.dloadN X0.here hx rfl (hb hby d5_12) rfl ?_
    show Steps p.tables e below (s₁.setTop (mkF m 13 #[.val (.ref a1), .val (.int p2), .val (.double r24), .second, .val (.int (1 : Int32))] [(.double r24)])) _
    refine XS.iload X0.here hx rfl (hb hby d5_13) rfl ?_
    show Steps p.tables e below (s₁.setTop (mkF m 15 #[.val (.ref a1), .val (.int p2), .val (.double r24), .second, .val (.int (1 : Int32))] [(.int (1 : Int32)), (.double r24)])) _
    refine XS.iconst X0.here hx rfl (hb hby d5_15) ?_
    show Steps p.tables e below (s₁.setTop (mkF m 16 #[.val (.ref a1), .val (.int p2), .val (.double r24), .second, .val (.int (1 : Int32))] [(.int (1 : Int32)), (.int (1 : Int32)), (.double r24)])) _
    refine XS.iadd X0.here hx rfl (hb hby d5_16) rfl ?_
    show Steps p.tables e below (s₁.setTop (mkF m 17 #[.val (.ref a1), .val (.int p2), .val (.double r24), .second, .val (.int (1 : Int32))] [(.int (2 : Int32)), (.double r24)])) _
    refine XS.i2dS X0.here hx rfl (hb hby d5_17) rfl rfl ?_
    show Steps p.tables e below (s₁.setTop (mkF m 18 #[.val (.ref a1), .val (.int p2), .val (.double r24), .second, .val (.int (1 : Int32))] [(.double (FP.i2d (2 : Int32))), (.double r24)])) _
    refine XS.aloadN X0.here hx rfl (hb hby d5_18) rfl rfl ?_
    show Steps p.tables e below (s₁.setTop (mkF m 19 #[.val (.ref a1), .val (.int p2), .val (.double r24), .second, .val (.int (1 : Int32))] [(.ref a1), (.double (FP.i2d (2 : Int32))), (.double r24)])) _
    refine XS.iload X0.here hx rfl (hb hby d5_19) rfl ?_
    show Steps p.tables e below (s₁.setTop (mkF m 21 #[.val (.ref a1), .val (.int p2), .val (.double r24), .second, .val (.int (1 : Int32))] [(.int (1 : Int32)), (.ref a1), (.double (FP.i2d (2 : Int32))), (.double r24)])) _
    refine X0.iaload hx (j := (1 : Int32)) (v := (.int w4)) (by rw [e0]; exact Ar_a1.1) (State.isArrayOf_alike hZ.alike Ar_a1.2.1) Ar_a1.2.2 hin21_2 hat21_2 (g := (mkF m 21 #[.val (.ref a1), .val (.int p2), .val (.double r24), .second, .val (.int (1 : Int32))] [(.int (1 : Int32)), (.ref a1), (.double (FP.i2d (2 : Int32))), (.double r24)])) rfl rfl (hb hby d5_21) _ ?_
    show Steps p.tables e below (s₁.setTop (mkF m 22 #[.val (.ref a1), .val (.int p2), .val (.double r24), .second, .val (.int (1 : Int32))] [(.int w4), (.double (FP.i2d (2 : Int32))), (.double r24)])) _
    refine XS.i2dS X0.here hx rfl (hb hby d5_22) rfl rfl ?_
    show Steps p.tables e below (s₁.setTop (mkF m 23 #[.val (.ref a1), .val (.int p2), .val (.double r24), .second, .val (.int (1 : Int32))] [(.double (FP.i2d w4)), (.double (FP.i2d (2 : Int32))), (.double r24)])) _
    refine XS.ddivS X0.here hx rfl (hb hby d5_23) rfl hn23_2 hv23_2 ?_
    show Steps p.tables e below (s₁.setTop (mkF m 24 #[.val (.ref a1), .val (.int p2), .val (.double r24), .second, .val (.int (1 : Int32))] [(.double r23_2), (.double r24)])) _
    refine XS.daddS X0.here hx rfl (hb hby d5_24) rfl hn24_2 hv24_2 ?_
    show Steps p.tables e below (s₁.setTop (mkF m 25 #[.val (.ref a1), .val (.int p2), .val (.double r24), .second, .val (.int (1 : Int32))] [(.double r24_2)])) _
    refine XS.dstoreN X0.here hx rfl (hb hby d5_25) rfl (l' := #[.val (.ref a1), .val (.int p2), .val (.double r24_2), .second, .val (.int (1 : Int32))]) rfl ?_
    show Steps p.tables e below (s₁.setTop (mkF m 26 #[.val (.ref a1), .val (.int p2), .val (.double r24_2), .second, .val (.int (1 : Int32))] [])) _
    refine XS.iinc X0.here hx rfl (hb hby d5_26) rfl (l' := #[.val (.ref a1), .val (.int p2), .val (.double r24_2), .second, .val (.int (2 : Int32))]) rfl ?_
    show Steps p.tables e below (s₁.setTop (mkF m 29 #[.val (.ref a1), .val (.int p2), .val (.double r24_2), .second, .val (.int (2 : Int32))] [])) _
    refine XS.goto X0.here hx rfl (pc0 := 29) (pc' := 5) rfl (hb hby d5_29) (by decide) (by decide) ?_
    show Steps p.tables e below (s₁.setTop (mkF m 5 #[.val (.ref a1), .val (.int p2), .val (.double r24_2), .second, .val (.int (2 : Int32))] [])) _
    refine XS.iload X0.here hx rfl (hb hby d5_5) rfl ?_
    show Steps p.tables e below (s₁.setTop (mkF m 7 #[.val (.ref a1), .val (.int p2), .val (.double r24_2), .second, .val (.int (2 : Int32))] [(.int (2 : Int32))])) _
    refine XS.aloadN X0.here hx rfl (hb hby d5_7) rfl rfl ?_
    show Steps p.tables e below (s₁.setTop (mkF m 8 #[.val (.ref a1), .val (.int p2), .val (.double r24_2), .second, .val (.int (2 : Int32))] [(.ref a1), (.int (2 : Int32))])) _
    refine X0.arraylength hx (by rw [e0]; exact Ar_a1.1) (State.isArrayOf_alike hZ.alike Ar_a1.2.1) (g := (mkF m 8 #[.val (.ref a1), .val (.int p2), .val (.double r24_2), .second, .val (.int (2 : Int32))] [(.ref a1), (.int (2 : Int32))])) rfl rfl (hb hby d5_8) _ ?_
    rw [len_of S_a1 N_a1]
    show Steps p.tables e below (s₁.setTop (mkF m 9 #[.val (.ref a1), .val (.int p2), .val (.double r24_2), .second, .val (.int (2 : Int32))] [(.int (3 : Int32)), (.int (2 : Int32))])) _
    refine XS.icmpNo X0.here hx rfl (hb hby d5_9) rfl (tlt (by decide : (2 : Int32) < (3 : Int32))).2.1 ?_
    show Steps p.tables e below (s₁.setTop (mkF m 12 #[.val (.ref a1), .val (.int p2), .val (.double r24_2), .second, .val (.int (2 : Int32))] [])) _
    refine XS.dloadN X0.here hx rfl (hb hby d5_12) rfl ?_
    show Steps p.tables e below (s₁.setTop (mkF m 13 #[.val (.ref a1), .val (.int p2), .val (.double r24_2), .second, .val (.int (2 : Int32))] [(.double r24_2)])) _
    refine XS.iload X0.here hx rfl (hb hby d5_13) rfl ?_
    show Steps p.tables e below (s₁.setTop (mkF m 15 #[.val (.ref a1), .val (.int p2), .val (.double r24_2), .second, .val (.int (2 : Int32))] [(.int (2 : Int32)), (.double r24_2)])) _
    refine XS.iconst X0.here hx rfl (hb hby d5_15) ?_
    show Steps p.tables e below (s₁.setTop (mkF m 16 #[.val (.ref a1), .val (.int p2), .val (.double r24_2), .second, .val (.int (2 : Int32))] [(.int (1 : Int32)), (.int (2 : Int32)), (.double r24_2)])) _
    refine XS.iadd X0.here hx rfl (hb hby d5_16) rfl ?_
    show Steps p.tables e below (s₁.setTop (mkF m 17 #[.val (.ref a1), .val (.int p2), .val (.double r24_2), .second, .val (.int (2 : Int32))] [(.int (3 : Int32)), (.double r24_2)])) _
    refine XS.i2dS X0.here hx rfl (hb hby d5_17) rfl rfl ?_
    show Steps p.tables e below (s₁.setTop (mkF m 18 #[.val (.ref a1), .val (.int p2), .val (.double r24_2), .second, .val (.int (2 : Int32))] [(.double (FP.i2d (3 : Int32))), (.double r24_2)])) _
    refine XS.aloadN X0.here hx rfl (hb hby d5_18) rfl rfl ?_
    show Steps p.tables e below (s₁.setTop (mkF m 19 #[.val (.ref a1), .val (.int p2), .val (.double r24_2), .second, .val (.int (2 : Int32))] [(.ref a1), (.double (FP.i2d (3 : Int32))), (.double r24_2)])) _
    refine XS.iload X0.here hx rfl (hb hby d5_19) rfl ?_
    show Steps p.tables e below (s₁.setTop (mkF m 21 #[.val (.ref a1), .val (.int p2), .val (.double r24_2), .second, .val (.int (2 : Int32))] [(.int (2 : Int32)), (.ref a1), (.double (FP.i2d (3 : Int32))), (.double r24_2)])) _
    refine X0.iaload hx (j := (2 : Int32)) (v := (.int w5)) (by rw [e0]; exact Ar_a1.1) (State.isArrayOf_alike hZ.alike Ar_a1.2.1) Ar_a1.2.2 hin21_3 hat21_3 (g := (mkF m 21 #[.val (.ref a1), .val (.int p2), .val (.double r24_2), .second, .val (.int (2 : Int32))] [(.int (2 : Int32)), (.ref a1), (.double (FP.i2d (3 : Int32))), (.double r24_2)])) rfl rfl (hb hby d5_21) _ ?_
    show Steps p.tables e below (s₁.setTop (mkF m 22 #[.val (.ref a1), .val (.int p2), .val (.double r24_2), .second, .val (.int (2 : Int32))] [(.int w5), (.double (FP.i2d (3 : Int32))), (.double r24_2)])) _
    refine XS.i2dS X0.here hx rfl (hb hby d5_22) rfl rfl ?_
    show Steps p.tables e below (s₁.setTop (mkF m 23 #[.val (.ref a1), .val (.int p2), .val (.double r24_2), .second, .val (.int (2 : Int32))] [(.double (FP.i2d w5)), (.double (FP.i2d (3 : Int32))), (.double r24_2)])) _
    refine XS.ddivS X0.here hx rfl (hb hby d5_23) rfl hn23_3 hv23_3 ?_
    show Steps p.tables e below (s₁.setTop (mkF m 24 #[.val (.ref a1), .val (.int p2), .val (.double r24_2), .second, .val (.int (2 : Int32))] [(.double r23_3), (.double r24_2)])) _
    refine XS.daddS X0.here hx rfl (hb hby d5_24) rfl hn24_3 hv24_3 ?_
    show Steps p.tables e below (s₁.setTop (mkF m 25 #[.val (.ref a1), .val (.int p2), .val (.double r24_2), .second, .val (.int (2 : Int32))] [(.double r24_3)])) _
    refine XS.dstoreN X0.here hx rfl (hb hby d5_25) rfl (l' := #[.val (.ref a1), .val (.int p2), .val (.double r24_3), .second, .val (.int (2 : Int32))]) rfl ?_
    show Steps p.tables e below (s₁.setTop (mkF m 26 #[.val (.ref a1), .val (.int p2), .val (.double r24_3), .second, .val (.int (2 : Int32))] [])) _
    refine XS.iinc X0.here hx rfl (hb hby d5_26) rfl (l' := #[.val (.ref a1), .val (.int p2), .val (.double r24_3), .second, .val (.int (3 : Int32))]) rfl ?_
    show Steps p.tables e below (s₁.setTop (mkF m 29 #[.val (.ref a1), .val (.int p2), .val (.double r24_3), .second, .val (.int (3 : Int32))] [])) _
    refine XS.goto X0.here hx rfl (pc0 := 29) (pc' := 5) rfl (hb hby d5_29) (by decide) (by decide) ?_
    show Steps p.tables e below (s₁.setTop (mkF m 5 #[.val (.ref a1), .val (.int p2), .val (.double r24_3), .second, .val (.int (3 : Int32))] [])) _
    refine XS.iload X0.here hx rfl (hb hby d5_5) rfl ?_
    show Steps p.tables e below (s₁.setTop (mkF m 7 #[.val (.ref a1), .val (.int p2), .val (.double r24_3), .second, .val (.int (3 : Int32))] [(.int (3 : Int32))])) _
    refine XS.aloadN X0.here hx rfl (hb hby d5_7) rfl rfl ?_
    show Steps p.tables e below (s₁.setTop (mkF m 8 #[.val (.ref a1), .val (.int p2), .val (.double r24_3), .second, .val (.int (3 : Int32))] [(.ref a1), (.int (3 : Int32))])) _
    refine X0.arraylength hx (by rw [e0]; exact Ar_a1.1) (State.isArrayOf_alike hZ.alike Ar_a1.2.1) (g := (mkF m 8 #[.val (.ref a1), .val (.int p2), .val (.double r24_3), .second, .val (.int (3 : Int32))] [(.ref a1), (.int (3 : Int32))])) rfl rfl (hb hby d5_8) _ ?_
    rw [len_of S_a1 N_a1]
    show Steps p.tables e below (s₁.setTop (mkF m 9 #[.val (.ref a1), .val (.int p2), .val (.double r24_3), .second, .val (.int (3 : Int32))] [(.int (3 : Int32)), (.int (3 : Int32))])) _
    refine XS.icmpYes X0.here hx rfl (pc0 := 9) (pc' := 32) rfl (hb hby d5_9) rfl (flt (by decide : ¬ ((3 : Int32) < (3 : Int32)))).2.1 (by decide) (by decide) ?_
    show Steps p.tables e below (s₁.setTop (mkF m 32 #[.val (.ref a1), .val (.int p2), .val (.double r24_3), .second, .val (.int (3 : Int32))] [])) _
    refine XS.dloadN X0.here hx rfl (hb hby d5_32) rfl ?_
    show Steps p.tables e below (s₁.setTop (mkF m 33 #[.val (.ref a1), .val (.int p2), .val (.double r24_3), .second, .val (.int (3 : Int32))] [(.double r24_3)])) _
    refine XS.iloadN X0.here hx rfl (hb hby d5_33) rfl ?_
    show Steps p.tables e below (s₁.setTop (mkF m 34 #[.val (.ref a1), .val (.int p2), .val (.double r24_3), .second, .val (.int (3 : Int32))] [(.int p2), (.double r24_3)])) _
    refine XS.i2dS X0.here hx rfl (hb hby d5_34) rfl rfl ?_
    show Steps p.tables e below (s₁.setTop (mkF m 35 #[.val (.ref a1), .val (.int p2), .val (.double r24_3), .second, .val (.int (3 : Int32))] [(.double (FP.i2d p2)), (.double r24_3)])) _
    refine XS.ddivS X0.here hx rfl (hb hby d5_35) rfl hn35 hv35 ?_
    show Steps p.tables e below (s₁.setTop (mkF m 36 #[.val (.ref a1), .val (.int p2), .val (.double r24_3), .second, .val (.int (3 : Int32))] [(.double r35)])) _
    exact retOut X0 hx Bd.returns rfl (Or.inr (Or.inr (Or.inl ⟨rfl, rfl, _, rfl⟩))) (hb hby d5_36) hr
  · show QP (some (.double r35)) h0 n0 _ s₁.heap _
    rw [e0]
    exact ⟨rfl, N0, rfl⟩
set_option maxRecDepth 65536 in
set_option maxHeartbeats 40000000 in
theorem rm6_3t (l : Launch) (Z : State) (a0 : Array Value) (hw : ∀ d ∈ tables_1, d.before a0 Z = true) (ws : List Jvm.Cond) (a1 : Addr) (p2 : Int32) (cl_a1 : Cell) (w3 : Int32) (h0 : Heap) (n0 : Nat) (Z0 : n0 ≤ h0.size) (Ar_a1 : Arr Z h0 a1 cl_a1 .int) (S_a1 : cl_a1.slots.size = (3 : Int32).toNatClampNeg) (N_a1 : ¬ (3 : Int32) < 0) (hin10 : ¬ ((0 : Int32) < 0 ∨ cl_a1.slots.size ≤ ((0 : Int32)).toNatClampNeg)) (hat10 : cl_a1.slots[((0 : Int32)).toNatClampNeg]? = some (.int w3)) (hc12 : p2 < w3) :
    MetFree l (⟨"com/example/pesquisa/pesquisa/Measure", "foundBy", "([II)I"⟩ : MethodName) (head1 (Jvm.Cond.code (⟨"com/example/pesquisa/pesquisa/Measure", "foundBy", "([II)I"⟩ : MethodName) prog_6_method_7_code 3 (some .int) :: ws) ({ frames := 0, cells := 0, slots := 0, locals := 0 } : Room)) (fun a U => a = #[(.ref a1), (.int p2)] ∧ Z.Warmed39 U.vm ∧ U.heap = h0) (fun _ _ _ _ _ => True) (fun _ U o U' => ∃ v L, o = .returned v ∧ QP (some (.int (0 : Int32))) h0 n0 v U'.heap L ∧ FrameEnd U o U' L ({ frames := 0, cells := 0, slots := 0, locals := 0 } : Room).cells ({ frames := 0, cells := 0, slots := 0, locals := 0 } : Room).slots) := by
  refine MetFree.of_bodySF (plainFor_of_name pn_6) hisR ?_
  intro p e s m args below meth c s₁ Bd hml0 hP hK
  obtain ⟨rfl, hZ, hh⟩ := hP
  have hx := Bd.exec
  have hby := Bd.bytes
  have hml : c.maxLocals = 3 := hml0
  have hown : s.vm.findClass "com/example/pesquisa/pesquisa/Measure" = some m.cls := findClass_of_methodNamed Bd.named
  have hnm := (name_of_methodNamed Bd.named Bd.method).1
  have X0 : Stand p l e ({ frames := 0, cells := 0, slots := 0, locals := 0 } : Room) s m #[(.ref a1), (.int p2)] below meth c s₁ [] 0 0 := Stand.of_body Bd
  have e0 : s₁.heap = h0 := by rw [← hh, Bd.state]; rfl
  have N0 := Fr.nil n0
  have pre0 : ∀ t, Steps p.tables e below (s₁.setTop (mkF m 0 #[.val (.ref a1), .val (.int p2), .unset] [])) t → Steps p.tables e below (s₁.setTop (entryFrame m #[(.ref a1), (.int p2)] 3)) t := fun t k => castTop (ef_6 m a1 p2) k

  obtain ⟨fs, hr, hrun, hended, hW, hsame⟩ := X0.leave (v := some (.int (0 : Int32))) (fun h => by rw [Bd.returns] at h; cases h)
  refine ⟨_, _, pre0 _ ?_, hrun, hended, _, _, rfl, ?_, ⟨_, rfl⟩, hW, hsame.mono (by decide) (by decide)⟩
  · show Steps p.tables e below (s₁.setTop (mkF m 0 #[.val (.ref a1), .val (.int p2), .unset] [])) _
    refine XS.iconst X0.here hx rfl (hb hby d6_0) ?_
    show Steps p.tables e below (s₁.setTop (mkF m 1 #[.val (.ref a1), .val (.int p2), .unset] [(.int (0 : Int32))])) _
    refine XS.istoreN X0.here hx rfl (hb hby d6_1) rfl (l' := #[.val (.ref a1), .val (.int p2), .val (.int (0 : Int32))]) rfl ?_
    show Steps p.tables e below (s₁.setTop (mkF m 2 #[.val (.ref a1), .val (.int p2), .val (.int (0 : Int32))] [])) _
    refine XS.iloadN X0.here hx rfl (hb hby d6_2) rfl ?_
    show Steps p.tables e below (s₁.setTop (mkF m 3 #[.val (.ref a1), .val (.int p2), .val (.int (0 : Int32))] [(.int (0 : Int32))])) _
    refine XS.aloadN X0.here hx rfl (hb hby d6_3) rfl rfl ?_
    show Steps p.tables e below (s₁.setTop (mkF m 4 #[.val (.ref a1), .val (.int p2), .val (.int (0 : Int32))] [(.ref a1), (.int (0 : Int32))])) _
    refine X0.arraylength hx (by rw [e0]; exact Ar_a1.1) (State.isArrayOf_alike hZ.alike Ar_a1.2.1) (g := (mkF m 4 #[.val (.ref a1), .val (.int p2), .val (.int (0 : Int32))] [(.ref a1), (.int (0 : Int32))])) rfl rfl (hb hby d6_4) _ ?_
    rw [len_of S_a1 N_a1]
    show Steps p.tables e below (s₁.setTop (mkF m 5 #[.val (.ref a1), .val (.int p2), .val (.int (0 : Int32))] [(.int (3 : Int32)), (.int (0 : Int32))])) _
    refine XS.icmpNo X0.here hx rfl (hb hby d6_5) rfl (tlt (by decide : (0 : Int32) < (3 : Int32))).2.1 ?_
    show Steps p.tables e below (s₁.setTop (mkF m 8 #[.val (.ref a1), .val (.int p2), .val (.int (0 : Int32))] [])) _
    refine XS.aloadN X0.here hx rfl (hb hby d6_8) rfl rfl ?_
    show Steps p.tables e below (s₁.setTop (mkF m 9 #[.val (.ref a1), .val (.int p2), .val (.int (0 : Int32))] [(.ref a1)])) _
    refine XS.iloadN X0.here hx rfl (hb hby d6_9) rfl ?_
    show Steps p.tables e below (s₁.setTop (mkF m 10 #[.val (.ref a1), .val (.int p2), .val (.int (0 : Int32))] [(.int (0 : Int32)), (.ref a1)])) _
    refine X0.iaload hx (j := (0 : Int32)) (v := (.int w3)) (by rw [e0]; exact Ar_a1.1) (State.isArrayOf_alike hZ.alike Ar_a1.2.1) Ar_a1.2.2 hin10 hat10 (g := (mkF m 10 #[.val (.ref a1), .val (.int p2), .val (.int (0 : Int32))] [(.int (0 : Int32)), (.ref a1)])) rfl rfl (hb hby d6_10) _ ?_
    show Steps p.tables e below (s₁.setTop (mkF m 11 #[.val (.ref a1), .val (.int p2), .val (.int (0 : Int32))] [(.int w3)])) _
    refine XS.iloadN X0.here hx rfl (hb hby d6_11) rfl ?_
    show Steps p.tables e below (s₁.setTop (mkF m 12 #[.val (.ref a1), .val (.int p2), .val (.int (0 : Int32))] [(.int p2), (.int w3)])) _
    refine XS.icmpYes X0.here hx rfl (pc0 := 12) (pc' := 21) rfl (hb hby d6_12) rfl (tlt hc12).2.2.1 (by decide) (by decide) ?_
    show Steps p.tables e below (s₁.setTop (mkF m 21 #[.val (.ref a1), .val (.int p2), .val (.int (0 : Int32))] [])) _
    refine XS.iloadN X0.here hx rfl (hb hby d6_21) rfl ?_
    show Steps p.tables e below (s₁.setTop (mkF m 22 #[.val (.ref a1), .val (.int p2), .val (.int (0 : Int32))] [(.int (0 : Int32))])) _
    exact retI X0 hx Bd.returns (hb hby d6_22) hr
  · show QP (some (.int (0 : Int32))) h0 n0 _ s₁.heap _
    rw [e0]
    exact ⟨rfl, N0, rfl⟩
set_option maxRecDepth 65536 in
set_option maxHeartbeats 40000000 in
theorem rm6_3ft (l : Launch) (Z : State) (a0 : Array Value) (hw : ∀ d ∈ tables_1, d.before a0 Z = true) (ws : List Jvm.Cond) (a1 : Addr) (p2 : Int32) (cl_a1 : Cell) (w3 : Int32) (w4 : Int32) (h0 : Heap) (n0 : Nat) (Z0 : n0 ≤ h0.size) (Ar_a1 : Arr Z h0 a1 cl_a1 .int) (S_a1 : cl_a1.slots.size = (3 : Int32).toNatClampNeg) (N_a1 : ¬ (3 : Int32) < 0) (hin10 : ¬ ((0 : Int32) < 0 ∨ cl_a1.slots.size ≤ ((0 : Int32)).toNatClampNeg)) (hat10 : cl_a1.slots[((0 : Int32)).toNatClampNeg]? = some (.int w3)) (hin10_2 : ¬ ((1 : Int32) < 0 ∨ cl_a1.slots.size ≤ ((1 : Int32)).toNatClampNeg)) (hat10_2 : cl_a1.slots[((1 : Int32)).toNatClampNeg]? = some (.int w4)) (hc12 : ¬ (p2 < w3)) (hc12_2 : p2 < w4) :
    MetFree l (⟨"com/example/pesquisa/pesquisa/Measure", "foundBy", "([II)I"⟩ : MethodName) (head1 (Jvm.Cond.code (⟨"com/example/pesquisa/pesquisa/Measure", "foundBy", "([II)I"⟩ : MethodName) prog_6_method_7_code 3 (some .int) :: ws) ({ frames := 0, cells := 0, slots := 0, locals := 0 } : Room)) (fun a U => a = #[(.ref a1), (.int p2)] ∧ Z.Warmed39 U.vm ∧ U.heap = h0) (fun _ _ _ _ _ => True) (fun _ U o U' => ∃ v L, o = .returned v ∧ QP (some (.int (1 : Int32))) h0 n0 v U'.heap L ∧ FrameEnd U o U' L ({ frames := 0, cells := 0, slots := 0, locals := 0 } : Room).cells ({ frames := 0, cells := 0, slots := 0, locals := 0 } : Room).slots) := by
  refine MetFree.of_bodySF (plainFor_of_name pn_6) hisR ?_
  intro p e s m args below meth c s₁ Bd hml0 hP hK
  obtain ⟨rfl, hZ, hh⟩ := hP
  have hx := Bd.exec
  have hby := Bd.bytes
  have hml : c.maxLocals = 3 := hml0
  have hown : s.vm.findClass "com/example/pesquisa/pesquisa/Measure" = some m.cls := findClass_of_methodNamed Bd.named
  have hnm := (name_of_methodNamed Bd.named Bd.method).1
  have X0 : Stand p l e ({ frames := 0, cells := 0, slots := 0, locals := 0 } : Room) s m #[(.ref a1), (.int p2)] below meth c s₁ [] 0 0 := Stand.of_body Bd
  have e0 : s₁.heap = h0 := by rw [← hh, Bd.state]; rfl
  have N0 := Fr.nil n0
  have pre0 : ∀ t, Steps p.tables e below (s₁.setTop (mkF m 0 #[.val (.ref a1), .val (.int p2), .unset] [])) t → Steps p.tables e below (s₁.setTop (entryFrame m #[(.ref a1), (.int p2)] 3)) t := fun t k => castTop (ef_6 m a1 p2) k

  obtain ⟨fs, hr, hrun, hended, hW, hsame⟩ := X0.leave (v := some (.int (1 : Int32))) (fun h => by rw [Bd.returns] at h; cases h)
  refine ⟨_, _, pre0 _ ?_, hrun, hended, _, _, rfl, ?_, ⟨_, rfl⟩, hW, hsame.mono (by decide) (by decide)⟩
  · show Steps p.tables e below (s₁.setTop (mkF m 0 #[.val (.ref a1), .val (.int p2), .unset] [])) _
    refine XS.iconst X0.here hx rfl (hb hby d6_0) ?_
    show Steps p.tables e below (s₁.setTop (mkF m 1 #[.val (.ref a1), .val (.int p2), .unset] [(.int (0 : Int32))])) _
    refine XS.istoreN X0.here hx rfl (hb hby d6_1) rfl (l' := #[.val (.ref a1), .val (.int p2), .val (.int (0 : Int32))]) rfl ?_
    show Steps p.tables e below (s₁.setTop (mkF m 2 #[.val (.ref a1), .val (.int p2), .val (.int (0 : Int32))] [])) _
    refine XS.iloadN X0.here hx rfl (hb hby d6_2) rfl ?_
    show Steps p.tables e below (s₁.setTop (mkF m 3 #[.val (.ref a1), .val (.int p2), .val (.int (0 : Int32))] [(.int (0 : Int32))])) _
    refine XS.aloadN X0.here hx rfl (hb hby d6_3) rfl rfl ?_
    show Steps p.tables e below (s₁.setTop (mkF m 4 #[.val (.ref a1), .val (.int p2), .val (.int (0 : Int32))] [(.ref a1), (.int (0 : Int32))])) _
    refine X0.arraylength hx (by rw [e0]; exact Ar_a1.1) (State.isArrayOf_alike hZ.alike Ar_a1.2.1) (g := (mkF m 4 #[.val (.ref a1), .val (.int p2), .val (.int (0 : Int32))] [(.ref a1), (.int (0 : Int32))])) rfl rfl (hb hby d6_4) _ ?_
    rw [len_of S_a1 N_a1]
    show Steps p.tables e below (s₁.setTop (mkF m 5 #[.val (.ref a1), .val (.int p2), .val (.int (0 : Int32))] [(.int (3 : Int32)), (.int (0 : Int32))])) _
    refine XS.icmpNo X0.here hx rfl (hb hby d6_5) rfl (tlt (by decide : (0 : Int32) < (3 : Int32))).2.1 ?_
    show Steps p.tables e below (s₁.setTop (mkF m 8 #[.val (.ref a1), .val (.int p2), .val (.int (0 : Int32))] [])) _
    refine XS.aloadN X0.here hx rfl (hb hby d6_8) rfl rfl ?_
    show Steps p.tables e below (s₁.setTop (mkF m 9 #[.val (.ref a1), .val (.int p2), .val (.int (0 : Int32))] [(.ref a1)])) _
    refine XS.iloadN X0.here hx rfl (hb hby d6_9) rfl ?_
    show Steps p.tables e below (s₁.setTop (mkF m 10 #[.val (.ref a1), .val (.int p2), .val (.int (0 : Int32))] [(.int (0 : Int32)), (.ref a1)])) _
    refine X0.iaload hx (j := (0 : Int32)) (v := (.int w3)) (by rw [e0]; exact Ar_a1.1) (State.isArrayOf_alike hZ.alike Ar_a1.2.1) Ar_a1.2.2 hin10 hat10 (g := (mkF m 10 #[.val (.ref a1), .val (.int p2), .val (.int (0 : Int32))] [(.int (0 : Int32)), (.ref a1)])) rfl rfl (hb hby d6_10) _ ?_
    show Steps p.tables e below (s₁.setTop (mkF m 11 #[.val (.ref a1), .val (.int p2), .val (.int (0 : Int32))] [(.int w3)])) _
    refine XS.iloadN X0.here hx rfl (hb hby d6_11) rfl ?_
    show Steps p.tables e below (s₁.setTop (mkF m 12 #[.val (.ref a1), .val (.int p2), .val (.int (0 : Int32))] [(.int p2), (.int w3)])) _
    refine XS.icmpNo X0.here hx rfl (hb hby d6_12) rfl (flt hc12).2.2.1 ?_
    show Steps p.tables e below (s₁.setTop (mkF m 15 #[.val (.ref a1), .val (.int p2), .val (.int (0 : Int32))] [])) _
    refine XS.iinc X0.here hx rfl (hb hby d6_15) rfl (l' := #[.val (.ref a1), .val (.int p2), .val (.int (1 : Int32))]) rfl ?_
    show Steps p.tables e below (s₁.setTop (mkF m 18 #[.val (.ref a1), .val (.int p2), .val (.int (1 : Int32))] [])) _
    refine XS.goto X0.here hx rfl (pc0 := 18) (pc' := 2) rfl (hb hby d6_18) (by decide) (by decide) ?_
    show Steps p.tables e below (s₁.setTop (mkF m 2 #[.val (.ref a1), .val (.int p2), .val (.int (1 : Int32))] [])) _
    refine XS.iloadN X0.here hx rfl (hb hby d6_2) rfl ?_
    show Steps p.tables e below (s₁.setTop (mkF m 3 #[.val (.ref a1), .val (.int p2), .val (.int (1 : Int32))] [(.int (1 : Int32))])) _
    refine XS.aloadN X0.here hx rfl (hb hby d6_3) rfl rfl ?_
    show Steps p.tables e below (s₁.setTop (mkF m 4 #[.val (.ref a1), .val (.int p2), .val (.int (1 : Int32))] [(.ref a1), (.int (1 : Int32))])) _
    refine X0.arraylength hx (by rw [e0]; exact Ar_a1.1) (State.isArrayOf_alike hZ.alike Ar_a1.2.1) (g := (mkF m 4 #[.val (.ref a1), .val (.int p2), .val (.int (1 : Int32))] [(.ref a1), (.int (1 : Int32))])) rfl rfl (hb hby d6_4) _ ?_
    rw [len_of S_a1 N_a1]
    show Steps p.tables e below (s₁.setTop (mkF m 5 #[.val (.ref a1), .val (.int p2), .val (.int (1 : Int32))] [(.int (3 : Int32)), (.int (1 : Int32))])) _
    refine XS.icmpNo X0.here hx rfl (hb hby d6_5) rfl (tlt (by decide : (1 : Int32) < (3 : Int32))).2.1 ?_
    show Steps p.tables e below (s₁.setTop (mkF m 8 #[.val (.ref a1), .val (.int p2), .val (.int (1 : Int32))] [])) _
    refine XS.aloadN X0.here hx rfl (hb hby d6_8) rfl rfl ?_
    show Steps p.tables e below (s₁.setTop (mkF m 9 #[.val (.ref a1), .val (.int p2), .val (.int (1 : Int32))] [(.ref a1)])) _
    refine XS.iloadN X0.here hx rfl (hb hby d6_9) rfl ?_
    show Steps p.tables e below (s₁.setTop (mkF m 10 #[.val (.ref a1), .val (.int p2), .val (.int (1 : Int32))] [(.int (1 : Int32)), (.ref a1)])) _
    refine X0.iaload hx (j := (1 : Int32)) (v := (.int w4)) (by rw [e0]; exact Ar_a1.1) (State.isArrayOf_alike hZ.alike Ar_a1.2.1) Ar_a1.2.2 hin10_2 hat10_2 (g := (mkF m 10 #[.val (.ref a1), .val (.int p2), .val (.int (1 : Int32))] [(.int (1 : Int32)), (.ref a1)])) rfl rfl (hb hby d6_10) _ ?_
    show Steps p.tables e below (s₁.setTop (mkF m 11 #[.val (.ref a1), .val (.int p2), .val (.int (1 : Int32))] [(.int w4)])) _
    refine XS.iloadN X0.here hx rfl (hb hby d6_11) rfl ?_
    show Steps p.tables e below (s₁.setTop (mkF m 12 #[.val (.ref a1), .val (.int p2), .val (.int (1 : Int32))] [(.int p2), (.int w4)])) _
    refine XS.icmpYes X0.here hx rfl (pc0 := 12) (pc' := 21) rfl (hb hby d6_12) rfl (tlt hc12_2).2.2.1 (by decide) (by decide) ?_
    show Steps p.tables e below (s₁.setTop (mkF m 21 #[.val (.ref a1), .val (.int p2), .val (.int (1 : Int32))] [])) _
    refine XS.iloadN X0.here hx rfl (hb hby d6_21) rfl ?_
    show Steps p.tables e below (s₁.setTop (mkF m 22 #[.val (.ref a1), .val (.int p2), .val (.int (1 : Int32))] [(.int (1 : Int32))])) _
    exact retI X0 hx Bd.returns (hb hby d6_22) hr
  · show QP (some (.int (1 : Int32))) h0 n0 _ s₁.heap _
    rw [e0]
    exact ⟨rfl, N0, rfl⟩
set_option maxRecDepth 65536 in
set_option maxHeartbeats 40000000 in
theorem rm6_3fft (l : Launch) (Z : State) (a0 : Array Value) (hw : ∀ d ∈ tables_1, d.before a0 Z = true) (ws : List Jvm.Cond) (a1 : Addr) (p2 : Int32) (cl_a1 : Cell) (w3 : Int32) (w4 : Int32) (w5 : Int32) (h0 : Heap) (n0 : Nat) (Z0 : n0 ≤ h0.size) (Ar_a1 : Arr Z h0 a1 cl_a1 .int) (S_a1 : cl_a1.slots.size = (3 : Int32).toNatClampNeg) (N_a1 : ¬ (3 : Int32) < 0) (hin10 : ¬ ((0 : Int32) < 0 ∨ cl_a1.slots.size ≤ ((0 : Int32)).toNatClampNeg)) (hat10 : cl_a1.slots[((0 : Int32)).toNatClampNeg]? = some (.int w3)) (hin10_2 : ¬ ((1 : Int32) < 0 ∨ cl_a1.slots.size ≤ ((1 : Int32)).toNatClampNeg)) (hat10_2 : cl_a1.slots[((1 : Int32)).toNatClampNeg]? = some (.int w4)) (hin10_3 : ¬ ((2 : Int32) < 0 ∨ cl_a1.slots.size ≤ ((2 : Int32)).toNatClampNeg)) (hat10_3 : cl_a1.slots[((2 : Int32)).toNatClampNeg]? = some (.int w5)) (hc12 : ¬ (p2 < w3)) (hc12_2 : ¬ (p2 < w4)) (hc12_3 : p2 < w5) :
    MetFree l (⟨"com/example/pesquisa/pesquisa/Measure", "foundBy", "([II)I"⟩ : MethodName) (head1 (Jvm.Cond.code (⟨"com/example/pesquisa/pesquisa/Measure", "foundBy", "([II)I"⟩ : MethodName) prog_6_method_7_code 3 (some .int) :: ws) ({ frames := 0, cells := 0, slots := 0, locals := 0 } : Room)) (fun a U => a = #[(.ref a1), (.int p2)] ∧ Z.Warmed39 U.vm ∧ U.heap = h0) (fun _ _ _ _ _ => True) (fun _ U o U' => ∃ v L, o = .returned v ∧ QP (some (.int (2 : Int32))) h0 n0 v U'.heap L ∧ FrameEnd U o U' L ({ frames := 0, cells := 0, slots := 0, locals := 0 } : Room).cells ({ frames := 0, cells := 0, slots := 0, locals := 0 } : Room).slots) := by
  refine MetFree.of_bodySF (plainFor_of_name pn_6) hisR ?_
  intro p e s m args below meth c s₁ Bd hml0 hP hK
  obtain ⟨rfl, hZ, hh⟩ := hP
  have hx := Bd.exec
  have hby := Bd.bytes
  have hml : c.maxLocals = 3 := hml0
  have hown : s.vm.findClass "com/example/pesquisa/pesquisa/Measure" = some m.cls := findClass_of_methodNamed Bd.named
  have hnm := (name_of_methodNamed Bd.named Bd.method).1
  have X0 : Stand p l e ({ frames := 0, cells := 0, slots := 0, locals := 0 } : Room) s m #[(.ref a1), (.int p2)] below meth c s₁ [] 0 0 := Stand.of_body Bd
  have e0 : s₁.heap = h0 := by rw [← hh, Bd.state]; rfl
  have N0 := Fr.nil n0
  have pre0 : ∀ t, Steps p.tables e below (s₁.setTop (mkF m 0 #[.val (.ref a1), .val (.int p2), .unset] [])) t → Steps p.tables e below (s₁.setTop (entryFrame m #[(.ref a1), (.int p2)] 3)) t := fun t k => castTop (ef_6 m a1 p2) k

  obtain ⟨fs, hr, hrun, hended, hW, hsame⟩ := X0.leave (v := some (.int (2 : Int32))) (fun h => by rw [Bd.returns] at h; cases h)
  refine ⟨_, _, pre0 _ ?_, hrun, hended, _, _, rfl, ?_, ⟨_, rfl⟩, hW, hsame.mono (by decide) (by decide)⟩
  · show Steps p.tables e below (s₁.setTop (mkF m 0 #[.val (.ref a1), .val (.int p2), .unset] [])) _
    refine XS.iconst X0.here hx rfl (hb hby d6_0) ?_
    show Steps p.tables e below (s₁.setTop (mkF m 1 #[.val (.ref a1), .val (.int p2), .unset] [(.int (0 : Int32))])) _
    refine XS.istoreN X0.here hx rfl (hb hby d6_1) rfl (l' := #[.val (.ref a1), .val (.int p2), .val (.int (0 : Int32))]) rfl ?_
    show Steps p.tables e below (s₁.setTop (mkF m 2 #[.val (.ref a1), .val (.int p2), .val (.int (0 : Int32))] [])) _
    refine XS.iloadN X0.here hx rfl (hb hby d6_2) rfl ?_
    show Steps p.tables e below (s₁.setTop (mkF m 3 #[.val (.ref a1), .val (.int p2), .val (.int (0 : Int32))] [(.int (0 : Int32))])) _
    refine XS.aloadN X0.here hx rfl (hb hby d6_3) rfl rfl ?_
    show Steps p.tables e below (s₁.setTop (mkF m 4 #[.val (.ref a1), .val (.int p2), .val (.int (0 : Int32))] [(.ref a1), (.int (0 : Int32))])) _
    refine X0.arraylength hx (by rw [e0]; exact Ar_a1.1) (State.isArrayOf_alike hZ.alike Ar_a1.2.1) (g := (mkF m 4 #[.val (.ref a1), .val (.int p2), .val (.int (0 : Int32))] [(.ref a1), (.int (0 : Int32))])) rfl rfl (hb hby d6_4) _ ?_
    rw [len_of S_a1 N_a1]
    show Steps p.tables e below (s₁.setTop (mkF m 5 #[.val (.ref a1), .val (.int p2), .val (.int (0 : Int32))] [(.int (3 : Int32)), (.int (0 : Int32))])) _
    refine XS.icmpNo X0.here hx rfl (hb hby d6_5) rfl (tlt (by decide : (0 : Int32) < (3 : Int32))).2.1 ?_
    show Steps p.tables e below (s₁.setTop (mkF m 8 #[.val (.ref a1), .val (.int p2), .val (.int (0 : Int32))] [])) _
    refine XS.aloadN X0.here hx rfl (hb hby d6_8) rfl rfl ?_
    show Steps p.tables e below (s₁.setTop (mkF m 9 #[.val (.ref a1), .val (.int p2), .val (.int (0 : Int32))] [(.ref a1)])) _
    refine XS.iloadN X0.here hx rfl (hb hby d6_9) rfl ?_
    show Steps p.tables e below (s₁.setTop (mkF m 10 #[.val (.ref a1), .val (.int p2), .val (.int (0 : Int32))] [(.int (0 : Int32)), (.ref a1)])) _
    refine X0.iaload hx (j := (0 : Int32)) (v := (.int w3)) (by rw [e0]; exact Ar_a1.1) (State.isArrayOf_alike hZ.alike Ar_a1.2.1) Ar_a1.2.2 hin10 hat10 (g := (mkF m 10 #[.val (.ref a1), .val (.int p2), .val (.int (0 : Int32))] [(.int (0 : Int32)), (.ref a1)])) rfl rfl (hb hby d6_10) _ ?_
    show Steps p.tables e below (s₁.setTop (mkF m 11 #[.val (.ref a1), .val (.int p2), .val (.int (0 : Int32))] [(.int w3)])) _
    refine XS.iloadN X0.here hx rfl (hb hby d6_11) rfl ?_
    show Steps p.tables e below (s₁.setTop (mkF m 12 #[.val (.ref a1), .val (.int p2), .val (.int (0 : Int32))] [(.int p2), (.int w3)])) _
    refine XS.icmpNo X0.here hx rfl (hb hby d6_12) rfl (flt hc12).2.2.1 ?_
    show Steps p.tables e below (s₁.setTop (mkF m 15 #[.val (.ref a1), .val (.int p2), .val (.int (0 : Int32))] [])) _
    refine XS.iinc X0.here hx rfl (hb hby d6_15) rfl (l' := #[.val (.ref a1), .val (.int p2), .val (.int (1 : Int32))]) rfl ?_
    show Steps p.tables e below (s₁.setTop (mkF m 18 #[.val (.ref a1), .val (.int p2), .val (.int (1 : Int32))] [])) _
    refine XS.goto X0.here hx rfl (pc0 := 18) (pc' := 2) rfl (hb hby d6_18) (by decide) (by decide) ?_
    show Steps p.tables e below (s₁.setTop (mkF m 2 #[.val (.ref a1), .val (.int p2), .val (.int (1 : Int32))] [])) _
    refine XS.iloadN X0.here hx rfl (hb hby d6_2) rfl ?_
    show Steps p.tables e below (s₁.setTop (mkF m 3 #[.val (.ref a1), .val (.int p2), .val (.int (1 : Int32))] [(.int (1 : Int32))])) _
    refine XS.aloadN X0.here hx rfl (hb hby d6_3) rfl rfl ?_
    show Steps p.tables e below (s₁.setTop (mkF m 4 #[.val (.ref a1), .val (.int p2), .val (.int (1 : Int32))] [(.ref a1), (.int (1 : Int32))])) _
    refine X0.arraylength hx (by rw [e0]; exact Ar_a1.1) (State.isArrayOf_alike hZ.alike Ar_a1.2.1) (g := (mkF m 4 #[.val (.ref a1), .val (.int p2), .val (.int (1 : Int32))] [(.ref a1), (.int (1 : Int32))])) rfl rfl (hb hby d6_4) _ ?_
    rw [len_of S_a1 N_a1]
    show Steps p.tables e below (s₁.setTop (mkF m 5 #[.val (.ref a1), .val (.int p2), .val (.int (1 : Int32))] [(.int (3 : Int32)), (.int (1 : Int32))])) _
    refine XS.icmpNo X0.here hx rfl (hb hby d6_5) rfl (tlt (by decide : (1 : Int32) < (3 : Int32))).2.1 ?_
    show Steps p.tables e below (s₁.setTop (mkF m 8 #[.val (.ref a1), .val (.int p2), .val (.int (1 : Int32))] [])) _
    refine XS.aloadN X0.here hx rfl (hb hby d6_8) rfl rfl ?_
    show Steps p.tables e below (s₁.setTop (mkF m 9 #[.val (.ref a1), .val (.int p2), .val (.int (1 : Int32))] [(.ref a1)])) _
    refine XS.iloadN X0.here hx rfl (hb hby d6_9) rfl ?_
    show Steps p.tables e below (s₁.setTop (mkF m 10 #[.val (.ref a1), .val (.int p2), .val (.int (1 : Int32))] [(.int (1 : Int32)), (.ref a1)])) _
    refine X0.iaload hx (j := (1 : Int32)) (v := (.int w4)) (by rw [e0]; exact Ar_a1.1) (State.isArrayOf_alike hZ.alike Ar_a1.2.1) Ar_a1.2.2 hin10_2 hat10_2 (g := (mkF m 10 #[.val (.ref a1), .val (.int p2), .val (.int (1 : Int32))] [(.int (1 : Int32)), (.ref a1)])) rfl rfl (hb hby d6_10) _ ?_
    show Steps p.tables e below (s₁.setTop (mkF m 11 #[.val (.ref a1), .val (.int p2), .val (.int (1 : Int32))] [(.int w4)])) _
    refine XS.iloadN X0.here hx rfl (hb hby d6_11) rfl ?_
    show Steps p.tables e below (s₁.setTop (mkF m 12 #[.val (.ref a1), .val (.int p2), .val (.int (1 : Int32))] [(.int p2), (.int w4)])) _
    refine XS.icmpNo X0.here hx rfl (hb hby d6_12) rfl (flt hc12_2).2.2.1 ?_
    show Steps p.tables e below (s₁.setTop (mkF m 15 #[.val (.ref a1), .val (.int p2), .val (.int (1 : Int32))] [])) _
    refine XS.iinc X0.here hx rfl (hb hby d6_15) rfl (l' := #[.val (.ref a1), .val (.int p2), .val (.int (2 : Int32))]) rfl ?_
    show Steps p.tables e below (s₁.setTop (mkF m 18 #[.val (.ref a1), .val (.int p2), .val (.int (2 : Int32))] [])) _
    refine XS.goto X0.here hx rfl (pc0 := 18) (pc' := 2) rfl (hb hby d6_18) (by decide) (by decide) ?_
    show Steps p.tables e below (s₁.setTop (mkF m 2 #[.val (.ref a1), .val (.int p2), .val (.int (2 : Int32))] [])) _
    refine XS.iloadN X0.here hx rfl (hb hby d6_2) rfl ?_
    show Steps p.tables e below (s₁.setTop (mkF m 3 #[.val (.ref a1), .val (.int p2), .val (.int (2 : Int32))] [(.int (2 : Int32))])) _
    refine XS.aloadN X0.here hx rfl (hb hby d6_3) rfl rfl ?_
    show Steps p.tables e below (s₁.setTop (mkF m 4 #[.val (.ref a1), .val (.int p2), .val (.int (2 : Int32))] [(.ref a1), (.int (2 : Int32))])) _
    refine X0.arraylength hx (by rw [e0]; exact Ar_a1.1) (State.isArrayOf_alike hZ.alike Ar_a1.2.1) (g := (mkF m 4 #[.val (.ref a1), .val (.int p2), .val (.int (2 : Int32))] [(.ref a1), (.int (2 : Int32))])) rfl rfl (hb hby d6_4) _ ?_
    rw [len_of S_a1 N_a1]
    show Steps p.tables e below (s₁.setTop (mkF m 5 #[.val (.ref a1), .val (.int p2), .val (.int (2 : Int32))] [(.int (3 : Int32)), (.int (2 : Int32))])) _
    refine XS.icmpNo X0.here hx rfl (hb hby d6_5) rfl (tlt (by decide : (2 : Int32) < (3 : Int32))).2.1 ?_
    show Steps p.tables e below (s₁.setTop (mkF m 8 #[.val (.ref a1), .val (.int p2), .val (.int (2 : Int32))] [])) _
    refine XS.aloadN X0.here hx rfl (hb hby d6_8) rfl rfl ?_
    show Steps p.tables e below (s₁.setTop (mkF m 9 #[.val (.ref a1), .val (.int p2), .val (.int (2 : Int32))] [(.ref a1)])) _
    refine XS.iloadN X0.here hx rfl (hb hby d6_9) rfl ?_
    show Steps p.tables e below (s₁.setTop (mkF m 10 #[.val (.ref a1), .val (.int p2), .val (.int (2 : Int32))] [(.int (2 : Int32)), (.ref a1)])) _
    refine X0.iaload hx (j := (2 : Int32)) (v := (.int w5)) (by rw [e0]; exact Ar_a1.1) (State.isArrayOf_alike hZ.alike Ar_a1.2.1) Ar_a1.2.2 hin10_3 hat10_3 (g := (mkF m 10 #[.val (.ref a1), .val (.int p2), .val (.int (2 : Int32))] [(.int (2 : Int32)), (.ref a1)])) rfl rfl (hb hby d6_10) _ ?_
    show Steps p.tables e below (s₁.setTop (mkF m 11 #[.val (.ref a1), .val (.int p2), .val (.int (2 : Int32))] [(.int w5)])) _
    refine XS.iloadN X0.here hx rfl (hb hby d6_11) rfl ?_
    show Steps p.tables e below (s₁.setTop (mkF m 12 #[.val (.ref a1), .val (.int p2), .val (.int (2 : Int32))] [(.int p2), (.int w5)])) _
    refine XS.icmpYes X0.here hx rfl (pc0 := 12) (pc' := 21) rfl (hb hby d6_12) rfl (tlt hc12_3).2.2.1 (by decide) (by decide) ?_
    show Steps p.tables e below (s₁.setTop (mkF m 21 #[.val (.ref a1), .val (.int p2), .val (.int (2 : Int32))] [])) _
    refine XS.iloadN X0.here hx rfl (hb hby d6_21) rfl ?_
    show Steps p.tables e below (s₁.setTop (mkF m 22 #[.val (.ref a1), .val (.int p2), .val (.int (2 : Int32))] [(.int (2 : Int32))])) _
    exact retI X0 hx Bd.returns (hb hby d6_22) hr
  · show QP (some (.int (2 : Int32))) h0 n0 _ s₁.heap _
    rw [e0]
    exact ⟨rfl, N0, rfl⟩
set_option maxRecDepth 65536 in
set_option maxHeartbeats 40000000 in
theorem rm6_3fff (l : Launch) (Z : State) (a0 : Array Value) (hw : ∀ d ∈ tables_1, d.before a0 Z = true) (ws : List Jvm.Cond) (a1 : Addr) (p2 : Int32) (cl_a1 : Cell) (w3 : Int32) (w4 : Int32) (w5 : Int32) (h0 : Heap) (n0 : Nat) (Z0 : n0 ≤ h0.size) (Ar_a1 : Arr Z h0 a1 cl_a1 .int) (S_a1 : cl_a1.slots.size = (3 : Int32).toNatClampNeg) (N_a1 : ¬ (3 : Int32) < 0) (hin10 : ¬ ((0 : Int32) < 0 ∨ cl_a1.slots.size ≤ ((0 : Int32)).toNatClampNeg)) (hat10 : cl_a1.slots[((0 : Int32)).toNatClampNeg]? = some (.int w3)) (hin10_2 : ¬ ((1 : Int32) < 0 ∨ cl_a1.slots.size ≤ ((1 : Int32)).toNatClampNeg)) (hat10_2 : cl_a1.slots[((1 : Int32)).toNatClampNeg]? = some (.int w4)) (hin10_3 : ¬ ((2 : Int32) < 0 ∨ cl_a1.slots.size ≤ ((2 : Int32)).toNatClampNeg)) (hat10_3 : cl_a1.slots[((2 : Int32)).toNatClampNeg]? = some (.int w5)) (hc12 : ¬ (p2 < w3)) (hc12_2 : ¬ (p2 < w4)) (hc12_3 : ¬ (p2 < w5)) :
    MetFree l (⟨"com/example/pesquisa/pesquisa/Measure", "foundBy", "([II)I"⟩ : MethodName) (head1 (Jvm.Cond.code (⟨"com/example/pesquisa/pesquisa/Measure", "foundBy", "([II)I"⟩ : MethodName) prog_6_method_7_code 3 (some .int) :: ws) ({ frames := 0, cells := 0, slots := 0, locals := 0 } : Room)) (fun a U => a = #[(.ref a1), (.int p2)] ∧ Z.Warmed39 U.vm ∧ U.heap = h0) (fun _ _ _ _ _ => True) (fun _ U o U' => ∃ v L, o = .returned v ∧ QP (some (.int (3 : Int32))) h0 n0 v U'.heap L ∧ FrameEnd U o U' L ({ frames := 0, cells := 0, slots := 0, locals := 0 } : Room).cells ({ frames := 0, cells := 0, slots := 0, locals := 0 } : Room).slots) := by
  refine MetFree.of_bodySF (plainFor_of_name pn_6) hisR ?_
  intro p e s m args below meth c s₁ Bd hml0 hP hK
  obtain ⟨rfl, hZ, hh⟩ := hP
  have hx := Bd.exec
  have hby := Bd.bytes
  have hml : c.maxLocals = 3 := hml0
  have hown : s.vm.findClass "com/example/pesquisa/pesquisa/Measure" = some m.cls := findClass_of_methodNamed Bd.named
  have hnm := (name_of_methodNamed Bd.named Bd.method).1
  have X0 : Stand p l e ({ frames := 0, cells := 0, slots := 0, locals := 0 } : Room) s m #[(.ref a1), (.int p2)] below meth c s₁ [] 0 0 := Stand.of_body Bd
  have e0 : s₁.heap = h0 := by rw [← hh, Bd.state]; rfl
  have N0 := Fr.nil n0
  have pre0 : ∀ t, Steps p.tables e below (s₁.setTop (mkF m 0 #[.val (.ref a1), .val (.int p2), .unset] [])) t → Steps p.tables e below (s₁.setTop (entryFrame m #[(.ref a1), (.int p2)] 3)) t := fun t k => castTop (ef_6 m a1 p2) k

  obtain ⟨fs, hr, hrun, hended, hW, hsame⟩ := X0.leave (v := some (.int (3 : Int32))) (fun h => by rw [Bd.returns] at h; cases h)
  refine ⟨_, _, pre0 _ ?_, hrun, hended, _, _, rfl, ?_, ⟨_, rfl⟩, hW, hsame.mono (by decide) (by decide)⟩
  · show Steps p.tables e below (s₁.setTop (mkF m 0 #[.val (.ref a1), .val (.int p2), .unset] [])) _
    refine XS.iconst X0.here hx rfl (hb hby d6_0) ?_
    show Steps p.tables e below (s₁.setTop (mkF m 1 #[.val (.ref a1), .val (.int p2), .unset] [(.int (0 : Int32))])) _
    refine XS.istoreN X0.here hx rfl (hb hby d6_1) rfl (l' := #[.val (.ref a1), .val (.int p2), .val (.int (0 : Int32))]) rfl ?_
    show Steps p.tables e below (s₁.setTop (mkF m 2 #[.val (.ref a1), .val (.int p2), .val (.int (0 : Int32))] [])) _
    refine XS.iloadN X0.here hx rfl (hb hby d6_2) rfl ?_
    show Steps p.tables e below (s₁.setTop (mkF m 3 #[.val (.ref a1), .val (.int p2), .val (.int (0 : Int32))] [(.int (0 : Int32))])) _
    refine XS.aloadN X0.here hx rfl (hb hby d6_3) rfl rfl ?_
    show Steps p.tables e below (s₁.setTop (mkF m 4 #[.val (.ref a1), .val (.int p2), .val (.int (0 : Int32))] [(.ref a1), (.int (0 : Int32))])) _
    refine X0.arraylength hx (by rw [e0]; exact Ar_a1.1) (State.isArrayOf_alike hZ.alike Ar_a1.2.1) (g := (mkF m 4 #[.val (.ref a1), .val (.int p2), .val (.int (0 : Int32))] [(.ref a1), (.int (0 : Int32))])) rfl rfl (hb hby d6_4) _ ?_
    rw [len_of S_a1 N_a1]
    show Steps p.tables e below (s₁.setTop (mkF m 5 #[.val (.ref a1), .val (.int p2), .val (.int (0 : Int32))] [(.int (3 : Int32)), (.int (0 : Int32))])) _
    refine XS.icmpNo X0.here hx rfl (hb hby d6_5) rfl (tlt (by decide : (0 : Int32) < (3 : Int32))).2.1 ?_
    show Steps p.tables e below (s₁.setTop (mkF m 8 #[.val (.ref a1), .val (.int p2), .val (.int (0 : Int32))] [])) _
    refine XS.aloadN X0.here hx rfl (hb hby d6_8) rfl rfl ?_
    show Steps p.tables e below (s₁.setTop (mkF m 9 #[.val (.ref a1), .val (.int p2), .val (.int (0 : Int32))] [(.ref a1)])) _
    refine XS.iloadN X0.here hx rfl (hb hby d6_9) rfl ?_
    show Steps p.tables e below (s₁.setTop (mkF m 10 #[.val (.ref a1), .val (.int p2), .val (.int (0 : Int32))] [(.int (0 : Int32)), (.ref a1)])) _
    refine X0.iaload hx (j := (0 : Int32)) (v := (.int w3)) (by rw [e0]; exact Ar_a1.1) (State.isArrayOf_alike hZ.alike Ar_a1.2.1) Ar_a1.2.2 hin10 hat10 (g := (mkF m 10 #[.val (.ref a1), .val (.int p2), .val (.int (0 : Int32))] [(.int (0 : Int32)), (.ref a1)])) rfl rfl (hb hby d6_10) _ ?_
    show Steps p.tables e below (s₁.setTop (mkF m 11 #[.val (.ref a1), .val (.int p2), .val (.int (0 : Int32))] [(.int w3)])) _
    refine XS.iloadN X0.here hx rfl (hb hby d6_11) rfl ?_
    show Steps p.tables e below (s₁.setTop (mkF m 12 #[.val (.ref a1), .val (.int p2), .val (.int (0 : Int32))] [(.int p2), (.int w3)])) _
    refine XS.icmpNo X0.here hx rfl (hb hby d6_12) rfl (flt hc12).2.2.1 ?_
    show Steps p.tables e below (s₁.setTop (mkF m 15 #[.val (.ref a1), .val (.int p2), .val (.int (0 : Int32))] [])) _
    refine XS.iinc X0.here hx rfl (hb hby d6_15) rfl (l' := #[.val (.ref a1), .val (.int p2), .val (.int (1 : Int32))]) rfl ?_
    show Steps p.tables e below (s₁.setTop (mkF m 18 #[.val (.ref a1), .val (.int p2), .val (.int (1 : Int32))] [])) _
    refine XS.goto X0.here hx rfl (pc0 := 18) (pc' := 2) rfl (hb hby d6_18) (by decide) (by decide) ?_
    show Steps p.tables e below (s₁.setTop (mkF m 2 #[.val (.ref a1), .val (.int p2), .val (.int (1 : Int32))] [])) _
    refine XS.iloadN X0.here hx rfl (hb hby d6_2) rfl ?_
    show Steps p.tables e below (s₁.setTop (mkF m 3 #[.val (.ref a1), .val (.int p2), .val (.int (1 : Int32))] [(.int (1 : Int32))])) _
    refine XS.aloadN X0.here hx rfl (hb hby d6_3) rfl rfl ?_
    show Steps p.tables e below (s₁.setTop (mkF m 4 #[.val (.ref a1), .val (.int p2), .val (.int (1 : Int32))] [(.ref a1), (.int (1 : Int32))])) _
    refine X0.arraylength hx (by rw [e0]; exact Ar_a1.1) (State.isArrayOf_alike hZ.alike Ar_a1.2.1) (g := (mkF m 4 #[.val (.ref a1), .val (.int p2), .val (.int (1 : Int32))] [(.ref a1), (.int (1 : Int32))])) rfl rfl (hb hby d6_4) _ ?_
    rw [len_of S_a1 N_a1]
    show Steps p.tables e below (s₁.setTop (mkF m 5 #[.val (.ref a1), .val (.int p2), .val (.int (1 : Int32))] [(.int (3 : Int32)), (.int (1 : Int32))])) _
    refine XS.icmpNo X0.here hx rfl (hb hby d6_5) rfl (tlt (by decide : (1 : Int32) < (3 : Int32))).2.1 ?_
    show Steps p.tables e below (s₁.setTop (mkF m 8 #[.val (.ref a1), .val (.int p2), .val (.int (1 : Int32))] [])) _
    refine XS.aloadN X0.here hx rfl (hb hby d6_8) rfl rfl ?_
    show Steps p.tables e below (s₁.setTop (mkF m 9 #[.val (.ref a1), .val (.int p2), .val (.int (1 : Int32))] [(.ref a1)])) _
    refine XS.iloadN X0.here hx rfl (hb hby d6_9) rfl ?_
    show Steps p.tables e below (s₁.setTop (mkF m 10 #[.val (.ref a1), .val (.int p2), .val (.int (1 : Int32))] [(.int (1 : Int32)), (.ref a1)])) _
    refine X0.iaload hx (j := (1 : Int32)) (v := (.int w4)) (by rw [e0]; exact Ar_a1.1) (State.isArrayOf_alike hZ.alike Ar_a1.2.1) Ar_a1.2.2 hin10_2 hat10_2 (g := (mkF m 10 #[.val (.ref a1), .val (.int p2), .val (.int (1 : Int32))] [(.int (1 : Int32)), (.ref a1)])) rfl rfl (hb hby d6_10) _ ?_
    show Steps p.tables e below (s₁.setTop (mkF m 11 #[.val (.ref a1), .val (.int p2), .val (.int (1 : Int32))] [(.int w4)])) _
    refine XS.iloadN X0.here hx rfl (hb hby d6_11) rfl ?_
    show Steps p.tables e below (s₁.setTop (mkF m 12 #[.val (.ref a1), .val (.int p2), .val (.int (1 : Int32))] [(.int p2), (.int w4)])) _
    refine XS.icmpNo X0.here hx rfl (hb hby d6_12) rfl (flt hc12_2).2.2.1 ?_
    show Steps p.tables e below (s₁.setTop (mkF m 15 #[.val (.ref a1), .val (.int p2), .val (.int (1 : Int32))] [])) _
    refine XS.iinc X0.here hx rfl (hb hby d6_15) rfl (l' := #[.val (.ref a1), .val (.int p2), .val (.int (2 : Int32))]) rfl ?_
    show Steps p.tables e below (s₁.setTop (mkF m 18 #[.val (.ref a1), .val (.int p2), .val (.int (2 : Int32))] [])) _
    refine XS.goto X0.here hx rfl (pc0 := 18) (pc' := 2) rfl (hb hby d6_18) (by decide) (by decide) ?_
    show Steps p.tables e below (s₁.setTop (mkF m 2 #[.val (.ref a1), .val (.int p2), .val (.int (2 : Int32))] [])) _
    refine XS.iloadN X0.here hx rfl (hb hby d6_2) rfl ?_
    show Steps p.tables e below (s₁.setTop (mkF m 3 #[.val (.ref a1), .val (.int p2), .val (.int (2 : Int32))] [(.int (2 : Int32))])) _
    refine XS.aloadN X0.here hx rfl (hb hby d6_3) rfl rfl ?_
    show Steps p.tables e below (s₁.setTop (mkF m 4 #[.val (.ref a1), .val (.int p2), .val (.int (2 : Int32))] [(.ref a1), (.int (2 : Int32))])) _
    refine X0.arraylength hx (by rw [e0]; exact Ar_a1.1) (State.isArrayOf_alike hZ.alike Ar_a1.2.1) (g := (mkF m 4 #[.val (.ref a1), .val (.int p2), .val (.int (2 : Int32))] [(.ref a1), (.int (2 : Int32))])) rfl rfl (hb hby d6_4) _ ?_
    rw [len_of S_a1 N_a1]
    show Steps p.tables e below (s₁.setTop (mkF m 5 #[.val (.ref a1), .val (.int p2), .val (.int (2 : Int32))] [(.int (3 : Int32)), (.int (2 : Int32))])) _
    refine XS.icmpNo X0.here hx rfl (hb hby d6_5) rfl (tlt (by decide : (2 : Int32) < (3 : Int32))).2.1 ?_
    show Steps p.tables e below (s₁.setTop (mkF m 8 #[.val (.ref a1), .val (.int p2), .val (.int (2 : Int32))] [])) _
    refine XS.aloadN X0.here hx rfl (hb hby d6_8) rfl rfl ?_
    show Steps p.tables e below (s₁.setTop (mkF m 9 #[.val (.ref a1), .val (.int p2), .val (.int (2 : Int32))] [(.ref a1)])) _
    refine XS.iloadN X0.here hx rfl (hb hby d6_9) rfl ?_
    show Steps p.tables e below (s₁.setTop (mkF m 10 #[.val (.ref a1), .val (.int p2), .val (.int (2 : Int32))] [(.int (2 : Int32)), (.ref a1)])) _
    refine X0.iaload hx (j := (2 : Int32)) (v := (.int w5)) (by rw [e0]; exact Ar_a1.1) (State.isArrayOf_alike hZ.alike Ar_a1.2.1) Ar_a1.2.2 hin10_3 hat10_3 (g := (mkF m 10 #[.val (.ref a1), .val (.int p2), .val (.int (2 : Int32))] [(.int (2 : Int32)), (.ref a1)])) rfl rfl (hb hby d6_10) _ ?_
    show Steps p.tables e below (s₁.setTop (mkF m 11 #[.val (.ref a1), .val (.int p2), .val (.int (2 : Int32))] [(.int w5)])) _
    refine XS.iloadN X0.here hx rfl (hb hby d6_11) rfl ?_
    show Steps p.tables e below (s₁.setTop (mkF m 12 #[.val (.ref a1), .val (.int p2), .val (.int (2 : Int32))] [(.int p2), (.int w5)])) _
    refine XS.icmpNo X0.here hx rfl (hb hby d6_12) rfl (flt hc12_3).2.2.1 ?_
    show Steps p.tables e below (s₁.setTop (mkF m 15 #[.val (.ref a1), .val (.int p2), .val (.int (2 : Int32))] [])) _
    refine XS.iinc X0.here hx rfl (hb hby d6_15) rfl (l' := #[.val (.ref a1), .val (.int p2), .val (.int (3 : Int32))]) rfl ?_
    show Steps p.tables e below (s₁.setTop (mkF m 18 #[.val (.ref a1), .val (.int p2), .val (.int (3 : Int32))] [])) _
    refine XS.goto X0.here hx rfl (pc0 := 18) (pc' := 2) rfl (hb hby d6_18) (by decide) (by decide) ?_
    show Steps p.tables e below (s₁.setTop (mkF m 2 #[.val (.ref a1), .val (.int p2), .val (.int (3 : Int32))] [])) _
    refine XS.iloadN X0.here hx rfl (hb hby d6_2) rfl ?_
    show Steps p.tables e below (s₁.setTop (mkF m 3 #[.val (.ref a1), .val (.int p2), .val (.int (3 : Int32))] [(.int (3 : Int32))])) _
    refine XS.aloadN X0.here hx rfl (hb hby d6_3) rfl rfl ?_
    show Steps p.tables e below (s₁.setTop (mkF m 4 #[.val (.ref a1), .val (.int p2), .val (.int (3 : Int32))] [(.ref a1), (.int (3 : Int32))])) _
    refine X0.arraylength hx (by rw [e0]; exact Ar_a1.1) (State.isArrayOf_alike hZ.alike Ar_a1.2.1) (g := (mkF m 4 #[.val (.ref a1), .val (.int p2), .val (.int (3 : Int32))] [(.ref a1), (.int (3 : Int32))])) rfl rfl (hb hby d6_4) _ ?_
    rw [len_of S_a1 N_a1]
    show Steps p.tables e below (s₁.setTop (mkF m 5 #[.val (.ref a1), .val (.int p2), .val (.int (3 : Int32))] [(.int (3 : Int32)), (.int (3 : Int32))])) _
    refine XS.icmpYes X0.here hx rfl (pc0 := 5) (pc' := 21) rfl (hb hby d6_5) rfl (flt (by decide : ¬ ((3 : Int32) < (3 : Int32)))).2.1 (by decide) (by decide) ?_
    show Steps p.tables e below (s₁.setTop (mkF m 21 #[.val (.ref a1), .val (.int p2), .val (.int (3 : Int32))] [])) _
    refine XS.iloadN X0.here hx rfl (hb hby d6_21) rfl ?_
    show Steps p.tables e below (s₁.setTop (mkF m 22 #[.val (.ref a1), .val (.int p2), .val (.int (3 : Int32))] [(.int (3 : Int32))])) _
    exact retI X0 hx Bd.returns (hb hby d6_22) hr
  · show QP (some (.int (3 : Int32))) h0 n0 _ s₁.heap _
    rw [e0]
    exact ⟨rfl, N0, rfl⟩
theorem d3_0 : decode prog_6_method_5_code 0 = .ok (.aload_n 1, 1) := by decide +kernel
theorem d3_1 : decode prog_6_method_5_code 1 = .ok (.arraylength, 1) := by decide +kernel
theorem d3_2 : decode prog_6_method_5_code 2 = .ok (.ifCond .le 7, 3) := by decide +kernel
theorem d3_9 : decode prog_6_method_5_code 9 = .ok (.iconst 0, 1) := by decide +kernel
theorem d3_10 : decode prog_6_method_5_code 10 = .ok (.istore_n 3, 1) := by decide +kernel
theorem d3_11 : decode prog_6_method_5_code 11 = .ok (.iload_n 3, 1) := by decide +kernel
theorem d3_12 : decode prog_6_method_5_code 12 = .ok (.ifCond .eq 15, 3) := by decide +kernel
theorem d3_27 : decode prog_6_method_5_code 27 = .ok (.iconst 0, 1) := by decide +kernel
theorem d3_28 : decode prog_6_method_5_code 28 = .ok (.istore 4, 2) := by decide +kernel
theorem d3_30 : decode prog_6_method_5_code 30 = .ok (.aload_n 0, 1) := by decide +kernel
theorem d3_31 : decode prog_6_method_5_code 31 = .ok (.invokevirtual 42, 3) := by decide +kernel
theorem d3_34 : decode prog_6_method_5_code 34 = .ok (.tableswitch 34 0 4 #[44, 52, 66, 83, 101], 34) := by decide +kernel
theorem d3_78 : decode prog_6_method_5_code 78 = .ok (.aload_n 1, 1) := by decide +kernel
theorem d3_79 : decode prog_6_method_5_code 79 = .ok (.iload_n 2, 1) := by decide +kernel
theorem d3_80 : decode prog_6_method_5_code 80 = .ok (.invokestatic 51, 3) := by decide +kernel
theorem d3_83 : decode prog_6_method_5_code 83 = .ok (.goto 62, 3) := by decide +kernel
theorem d3_145 : decode prog_6_method_5_code 145 = .ok (.dreturn, 1) := by decide +kernel
theorem pn_3 : plainName "com/example/pesquisa/pesquisa/Measure" = true := by first | (simp [plainName, overriddenIn]; done) | decide +kernel
theorem pd_3_3 : parseMethodDescriptor "()I" = some ⟨[], some .int⟩ := by decide +kernel
theorem pd_3_2 : parseMethodDescriptor "([II)D" = some ⟨[(.array .int), .int], some .double⟩ := by decide +kernel
theorem ef_3 (m : MethodId) (x0 : Addr) (x1 : Addr) (x2 : Int32) : entryFrame m #[(.ref x0), (.ref x1), (.int x2)] 5 = mkF m 0 #[.val (.ref x0), .val (.ref x1), .val (.int x2), .unset, .unset] [] := by first | (simp [entryFrame, mkF, argsToLocals, Value.category]; done) | rfl
set_option maxRecDepth 65536 in
set_option maxHeartbeats 40000000 in
theorem rm3_0t (l : Launch) (Z : State) (a0 : Array Value) (hw : ∀ d ∈ tables_1, d.before a0 Z = true) (ws : List Jvm.Cond) (a1 : Addr) (a2 : Addr) (p3 : Int32) (cl_a2 : Cell) (z_a2 : Int32) (gA : UInt64) (h0 : Heap) (n0 : Nat) (Z0 : n0 ≤ h0.size) (Ar_a2 : Arr Z h0 a2 cl_a2 .int) (S_a2 : cl_a2.slots.size = z_a2.toNatClampNeg) (N_a2 : ¬ z_a2 < 0) (E_a1 : Exa Z h0 a1 "com/example/pesquisa/pesquisa/Measure") (hc2 : ¬ ((0 : Int32) < z_a2)) (F_ord : Fld Z h0 a1 "java/lang/Enum" "ordinal" "I" (.int (0 : Int32))) (hC : MetFree l (⟨"com/example/pesquisa/pesquisa/Measure", "averagePrecision", "([II)D"⟩ : MethodName) (head1 (Jvm.Cond.code (⟨"com/example/pesquisa/pesquisa/Measure", "averagePrecision", "([II)D"⟩ : MethodName) prog_6_method_6_code 5 (some .double) :: []) ({ frames := 0, cells := 0, slots := 0, locals := 0 } : Room)) (fun a U => a = #[(.ref a2), (.int p3)] ∧ Z.Warmed39 U.vm ∧ U.heap = h0) (fun _ _ _ _ _ => True) (fun _ U o U' => ∃ v L, o = .returned v ∧ QP (some (.double gA)) h0 n0 v U'.heap L ∧ FrameEnd U o U' L ({ frames := 0, cells := 0, slots := 0, locals := 0 } : Room).cells ({ frames := 0, cells := 0, slots := 0, locals := 0 } : Room).slots)) :
    MetFree l (⟨"com/example/pesquisa/pesquisa/Measure", "score", "([II)D"⟩ : MethodName) (head1 (Jvm.Cond.code (⟨"com/example/pesquisa/pesquisa/Measure", "score", "([II)D"⟩ : MethodName) prog_6_method_5_code 5 (some .double) :: ws) ({ frames := 1, cells := 0, slots := 0, locals := 40 } : Room)) (fun a U => a = #[(.ref a1), (.ref a2), (.int p3)] ∧ Z.Warmed39 U.vm ∧ U.heap = h0) (fun _ _ _ _ _ => True) (fun _ U o U' => ∃ v L, o = .returned v ∧ QP (some (.double gA)) h0 n0 v U'.heap L ∧ FrameEnd U o U' L ({ frames := 1, cells := 0, slots := 0, locals := 40 } : Room).cells ({ frames := 1, cells := 0, slots := 0, locals := 40 } : Room).slots) := by
  refine MetFree.of_bodySF (plainFor_of_name pn_3) hisR ?_
  intro p e s m args below meth c s₁ Bd hml0 hP hK
  obtain ⟨rfl, hZ, hh⟩ := hP
  have hx := Bd.exec
  have hby := Bd.bytes
  have hml : c.maxLocals = 5 := hml0
  have hown : s.vm.findClass "com/example/pesquisa/pesquisa/Measure" = some m.cls := findClass_of_methodNamed Bd.named
  have hnm := (name_of_methodNamed Bd.named Bd.method).1
  have X0 : Stand p l e ({ frames := 1, cells := 0, slots := 0, locals := 40 } : Room) s m #[(.ref a1), (.ref a2), (.int p3)] below meth c s₁ [] 0 0 := Stand.of_body Bd
  have e0 : s₁.heap = h0 := by rw [← hh, Bd.state]; rfl
  have N0 := Fr.nil n0
  have pre0 : ∀ t, Steps p.tables e below (s₁.setTop (mkF m 0 #[.val (.ref a1), .val (.ref a2), .val (.int p3), .unset, .unset] [])) t → Steps p.tables e below (s₁.setTop (entryFrame m #[(.ref a1), (.ref a2), (.int p3)] 5)) t := fun t k => castTop (ef_3 m a1 a2 p3) k
  obtain ⟨cq4, kq4, q4a, q4b, q4c⟩ := isOf hZ e0 E_a1
  obtain ⟨_, _, ⟨T4, L4, k4, n4⟩, -, X4, ⟨Lc4, hQ4, l4, y4, z4⟩, st4⟩ := X0.virtualBackUp hx (x := (⟨"com/example/pesquisa/pesquisa/Measure", "ordinal", "()I"⟩ : MethodName)) (y := (⟨"java/lang/Enum", "ordinal", "()I"⟩ : MethodName)) hown (mvT hZ (hw _ (List.mem_of_getElem? (i := 18) rfl))) (mvT hZ (hw _ (List.mem_of_getElem? (i := 19) rfl))) (mvT hZ (hw _ (List.mem_of_getElem? (i := 20) rfl))) (by decide) (mvT hZ (hw _ (List.mem_of_getElem? (i := 22) rfl))) (mvT hZ (hw _ (List.mem_of_getElem? (i := 21) rfl))) (backOf (W := 0) (rm4 l Z a0 hw [] a1 (0 : Int32) h0 n0 Z0 F_ord) hZ (hw _ (List.mem_of_getElem? (i := 24) rfl)) (hw _ (List.mem_of_getElem? (i := 23) rfl)) (by decide) (by decide)) q4a q4c (g := (mkF m 31 #[.val (.ref a1), .val (.ref a2), .val (.int p3), .val (.int (0 : Int32)), .val (.int (0 : Int32))] [(.ref a1)])) rfl (by rw [hml]; rfl) (Steps.refl _) (argsL := []) (rest := []) (lenOf pd_3_3 rfl) rfl (by show 2 * 0 + _ ≤ _; exact Nat.le_of_eq rfl) (hb hby d3_31) (fun _ _ => ⟨rfl, e0, (by decide : 0 + 0 ≤ _), (by decide : 0 + 0 ≤ _)⟩)
  dsimp only [Pt.U, Pt.locs, Pt.cells, Pt.slots] at X4 l4 y4 z4 st4 hQ4
  subst l4 y4 z4
  obtain ⟨rfl, N4q, eh4⟩ := hQ4
  have N4 := Fr.app N0 N4q
  have hC5 := hC
  rw [← eh4] at hC5
  obtain ⟨_, _, ⟨T5, L5, k5, n5⟩, -, X5, ⟨Lc5, hQ5, l5, y5, z5⟩, st5⟩ := Jvm.LawKit.callS X4 hx (y := (⟨"com/example/pesquisa/pesquisa/Measure", "averagePrecision", "([II)D"⟩ : MethodName)) hown (mvT hZ (hw _ (List.mem_of_getElem? (i := 27) rfl))) (mvT hZ (hw _ (List.mem_of_getElem? (i := 28) rfl))) (mvT hZ (hw _ (List.mem_of_getElem? (i := 11) rfl))) (mvT hZ (hw _ (List.mem_of_getElem? (i := 29) rfl))) (by decide) (backOf (W := 0) hC5 hZ (hw _ (List.mem_of_getElem? (i := 29) rfl)) (hw _ (List.mem_of_getElem? (i := 11) rfl)) (by decide) (by decide)) (g := (mkF m 80 #[.val (.ref a1), .val (.ref a2), .val (.int p3), .val (.int (0 : Int32)), .val (.int (0 : Int32))] [(.int p3), (.ref a2)])) rfl (by rw [hml]; rfl) (argsL := [(.ref a2), (.int p3)]) (rest := []) (lenOf pd_3_2 rfl) rfl (by show 2 * 0 + _ ≤ _; exact Nat.le_of_eq rfl) (hb hby d3_80) (fun _ _ => ⟨rfl, rfl, (by decide : 0 + 0 ≤ _), (by decide : 0 + 0 ≤ _)⟩)
  dsimp only [Pt.U, Pt.locs, Pt.cells, Pt.slots] at X5 l5 y5 z5 st5 hQ5
  subst l5 y5 z5
  obtain ⟨rfl, N5q, eh5⟩ := hQ5
  have N5 := Fr.app N4 N5q
  obtain ⟨fs, hr, hrun, hended, hW, hsame⟩ := X5.leave (v := some (.double gA)) (fun h => by rw [Bd.returns] at h; cases h)
  refine ⟨_, _, pre0 _ ?_, hrun, hended, _, _, rfl, ?_, ⟨_, rfl⟩, hW, hsame.mono (by decide) (by decide)⟩
  · show Steps p.tables e below (s₁.setTop (mkF m 0 #[.val (.ref a1), .val (.ref a2), .val (.int p3), .unset, .unset] [])) _
    refine XS.aloadN X0.here hx rfl (hb hby d3_0) rfl rfl ?_
    show Steps p.tables e below (s₁.setTop (mkF m 1 #[.val (.ref a1), .val (.ref a2), .val (.int p3), .unset, .unset] [(.ref a2)])) _
    refine X0.arraylength hx (by rw [e0]; exact Ar_a2.1) (State.isArrayOf_alike hZ.alike Ar_a2.2.1) (g := (mkF m 1 #[.val (.ref a1), .val (.ref a2), .val (.int p3), .unset, .unset] [(.ref a2)])) rfl rfl (hb hby d3_1) _ ?_
    rw [len_of S_a2 N_a2]
    show Steps p.tables e below (s₁.setTop (mkF m 2 #[.val (.ref a1), .val (.ref a2), .val (.int p3), .unset, .unset] [(.int z_a2)])) _
    refine XS.ifYes X0.here hx rfl (pc0 := 2) (pc' := 9) rfl (hb hby d3_2) rfl ((if0 _ _).trans (flt hc2).2.2.2) (by decide) (by decide) ?_
    show Steps p.tables e below (s₁.setTop (mkF m 9 #[.val (.ref a1), .val (.ref a2), .val (.int p3), .unset, .unset] [])) _
    refine XS.iconst X0.here hx rfl (hb hby d3_9) ?_
    show Steps p.tables e below (s₁.setTop (mkF m 10 #[.val (.ref a1), .val (.ref a2), .val (.int p3), .unset, .unset] [(.int (0 : Int32))])) _
    refine XS.istoreN X0.here hx rfl (hb hby d3_10) rfl (l' := #[.val (.ref a1), .val (.ref a2), .val (.int p3), .val (.int (0 : Int32)), .unset]) rfl ?_
    show Steps p.tables e below (s₁.setTop (mkF m 11 #[.val (.ref a1), .val (.ref a2), .val (.int p3), .val (.int (0 : Int32)), .unset] [])) _
    refine XS.iloadN X0.here hx rfl (hb hby d3_11) rfl ?_
    show Steps p.tables e below (s₁.setTop (mkF m 12 #[.val (.ref a1), .val (.ref a2), .val (.int p3), .val (.int (0 : Int32)), .unset] [(.int (0 : Int32))])) _
    refine XS.ifYes X0.here hx rfl (pc0 := 12) (pc' := 27) rfl (hb hby d3_12) rfl ((if0 _ _).trans (teq (by decide : (0 : Int32) = (0 : Int32))).1) (by decide) (by decide) ?_
    show Steps p.tables e below (s₁.setTop (mkF m 27 #[.val (.ref a1), .val (.ref a2), .val (.int p3), .val (.int (0 : Int32)), .unset] [])) _
    refine XS.iconst X0.here hx rfl (hb hby d3_27) ?_
    show Steps p.tables e below (s₁.setTop (mkF m 28 #[.val (.ref a1), .val (.ref a2), .val (.int p3), .val (.int (0 : Int32)), .unset] [(.int (0 : Int32))])) _
    refine XS.istore X0.here hx rfl (hb hby d3_28) rfl (l' := #[.val (.ref a1), .val (.ref a2), .val (.int p3), .val (.int (0 : Int32)), .val (.int (0 : Int32))]) rfl ?_
    show Steps p.tables e below (s₁.setTop (mkF m 30 #[.val (.ref a1), .val (.ref a2), .val (.int p3), .val (.int (0 : Int32)), .val (.int (0 : Int32))] [])) _
    refine XS.aloadN X0.here hx rfl (hb hby d3_30) rfl rfl ?_
    show Steps p.tables e below (s₁.setTop (mkF m 31 #[.val (.ref a1), .val (.ref a2), .val (.int p3), .val (.int (0 : Int32)), .val (.int (0 : Int32))] [(.ref a1)])) _
    refine st4.trans ?_
    show Steps p.tables e below (T4.setTop (mkF m 34 #[.val (.ref a1), .val (.ref a2), .val (.int p3), .val (.int (0 : Int32)), .val (.int (0 : Int32))] [(.int (0 : Int32))])) _
    refine XS.tswIn X4.here hx rfl (pc0 := 34) (pc' := 78) rfl (hb hby d3_34) rfl (by decide) rfl (by decide) (by decide) ?_
    show Steps p.tables e below (T4.setTop (mkF m 78 #[.val (.ref a1), .val (.ref a2), .val (.int p3), .val (.int (0 : Int32)), .val (.int (0 : Int32))] [])) _
    refine XS.aloadN X4.here hx rfl (hb hby d3_78) rfl rfl ?_
    show Steps p.tables e below (T4.setTop (mkF m 79 #[.val (.ref a1), .val (.ref a2), .val (.int p3), .val (.int (0 : Int32)), .val (.int (0 : Int32))] [(.ref a2)])) _
    refine XS.iloadN X4.here hx rfl (hb hby d3_79) rfl ?_
    show Steps p.tables e below (T4.setTop (mkF m 80 #[.val (.ref a1), .val (.ref a2), .val (.int p3), .val (.int (0 : Int32)), .val (.int (0 : Int32))] [(.int p3), (.ref a2)])) _
    refine st5 _ ?_
    show Steps p.tables e below (T5.setTop (mkF m 83 #[.val (.ref a1), .val (.ref a2), .val (.int p3), .val (.int (0 : Int32)), .val (.int (0 : Int32))] [(.double gA)])) _
    refine XS.goto X5.here hx rfl (pc0 := 83) (pc' := 145) rfl (hb hby d3_83) (by decide) (by decide) ?_
    show Steps p.tables e below (T5.setTop (mkF m 145 #[.val (.ref a1), .val (.ref a2), .val (.int p3), .val (.int (0 : Int32)), .val (.int (0 : Int32))] [(.double gA)])) _
    exact retOut X5 hx Bd.returns rfl (Or.inr (Or.inr (Or.inl ⟨rfl, rfl, _, rfl⟩))) (hb hby d3_145) hr
  · show QP (some (.double gA)) h0 n0 _ T5.heap _
    exact ⟨rfl, N5, eh5.trans eh4⟩
theorem d3_5 : decode prog_6_method_5_code 5 = .ok (.iconst 1, 1) := by decide +kernel
theorem d3_6 : decode prog_6_method_5_code 6 = .ok (.goto 4, 3) := by decide +kernel
theorem d3_15 : decode prog_6_method_5_code 15 = .ok (.aload_n 1, 1) := by decide +kernel
theorem d3_16 : decode prog_6_method_5_code 16 = .ok (.iconst 0, 1) := by decide +kernel
theorem d3_17 : decode prog_6_method_5_code 17 = .ok (.iaload, 1) := by decide +kernel
theorem d3_18 : decode prog_6_method_5_code 18 = .ok (.bipush 10, 2) := by decide +kernel
theorem d3_20 : decode prog_6_method_5_code 20 = .ok (.if_icmp .gt 7, 3) := by decide +kernel
set_option maxRecDepth 65536 in
set_option maxHeartbeats 40000000 in
theorem rm3_0ft (l : Launch) (Z : State) (a0 : Array Value) (hw : ∀ d ∈ tables_1, d.before a0 Z = true) (ws : List Jvm.Cond) (a1 : Addr) (a2 : Addr) (p3 : Int32) (cl_a2 : Cell) (z_a2 : Int32) (w4 : Int32) (gA : UInt64) (h0 : Heap) (n0 : Nat) (Z0 : n0 ≤ h0.size) (Ar_a2 : Arr Z h0 a2 cl_a2 .int) (S_a2 : cl_a2.slots.size = z_a2.toNatClampNeg) (N_a2 : ¬ z_a2 < 0) (hin17 : ¬ ((0 : Int32) < 0 ∨ cl_a2.slots.size ≤ ((0 : Int32)).toNatClampNeg)) (hat17 : cl_a2.slots[((0 : Int32)).toNatClampNeg]? = some (.int w4)) (E_a1 : Exa Z h0 a1 "com/example/pesquisa/pesquisa/Measure") (hc2 : (0 : Int32) < z_a2) (hc20 : (10 : Int32) < w4) (F_ord : Fld Z h0 a1 "java/lang/Enum" "ordinal" "I" (.int (0 : Int32))) (hC : MetFree l (⟨"com/example/pesquisa/pesquisa/Measure", "averagePrecision", "([II)D"⟩ : MethodName) (head1 (Jvm.Cond.code (⟨"com/example/pesquisa/pesquisa/Measure", "averagePrecision", "([II)D"⟩ : MethodName) prog_6_method_6_code 5 (some .double) :: []) ({ frames := 0, cells := 0, slots := 0, locals := 0 } : Room)) (fun a U => a = #[(.ref a2), (.int p3)] ∧ Z.Warmed39 U.vm ∧ U.heap = h0) (fun _ _ _ _ _ => True) (fun _ U o U' => ∃ v L, o = .returned v ∧ QP (some (.double gA)) h0 n0 v U'.heap L ∧ FrameEnd U o U' L ({ frames := 0, cells := 0, slots := 0, locals := 0 } : Room).cells ({ frames := 0, cells := 0, slots := 0, locals := 0 } : Room).slots)) :
    MetFree l (⟨"com/example/pesquisa/pesquisa/Measure", "score", "([II)D"⟩ : MethodName) (head1 (Jvm.Cond.code (⟨"com/example/pesquisa/pesquisa/Measure", "score", "([II)D"⟩ : MethodName) prog_6_method_5_code 5 (some .double) :: ws) ({ frames := 1, cells := 0, slots := 0, locals := 40 } : Room)) (fun a U => a = #[(.ref a1), (.ref a2), (.int p3)] ∧ Z.Warmed39 U.vm ∧ U.heap = h0) (fun _ _ _ _ _ => True) (fun _ U o U' => ∃ v L, o = .returned v ∧ QP (some (.double gA)) h0 n0 v U'.heap L ∧ FrameEnd U o U' L ({ frames := 1, cells := 0, slots := 0, locals := 40 } : Room).cells ({ frames := 1, cells := 0, slots := 0, locals := 40 } : Room).slots) := by
  refine MetFree.of_bodySF (plainFor_of_name pn_3) hisR ?_
  intro p e s m args below meth c s₁ Bd hml0 hP hK
  obtain ⟨rfl, hZ, hh⟩ := hP
  have hx := Bd.exec
  have hby := Bd.bytes
  have hml : c.maxLocals = 5 := hml0
  have hown : s.vm.findClass "com/example/pesquisa/pesquisa/Measure" = some m.cls := findClass_of_methodNamed Bd.named
  have hnm := (name_of_methodNamed Bd.named Bd.method).1
  have X0 : Stand p l e ({ frames := 1, cells := 0, slots := 0, locals := 40 } : Room) s m #[(.ref a1), (.ref a2), (.int p3)] below meth c s₁ [] 0 0 := Stand.of_body Bd
  have e0 : s₁.heap = h0 := by rw [← hh, Bd.state]; rfl
  have N0 := Fr.nil n0
  have pre0 : ∀ t, Steps p.tables e below (s₁.setTop (mkF m 0 #[.val (.ref a1), .val (.ref a2), .val (.int p3), .unset, .unset] [])) t → Steps p.tables e below (s₁.setTop (entryFrame m #[(.ref a1), (.ref a2), (.int p3)] 5)) t := fun t k => castTop (ef_3 m a1 a2 p3) k
  obtain ⟨cq5, kq5, q5a, q5b, q5c⟩ := isOf hZ e0 E_a1
  obtain ⟨_, _, ⟨T5, L5, k5, n5⟩, -, X5, ⟨Lc5, hQ5, l5, y5, z5⟩, st5⟩ := X0.virtualBackUp hx (x := (⟨"com/example/pesquisa/pesquisa/Measure", "ordinal", "()I"⟩ : MethodName)) (y := (⟨"java/lang/Enum", "ordinal", "()I"⟩ : MethodName)) hown (mvT hZ (hw _ (List.mem_of_getElem? (i := 18) rfl))) (mvT hZ (hw _ (List.mem_of_getElem? (i := 19) rfl))) (mvT hZ (hw _ (List.mem_of_getElem? (i := 20) rfl))) (by decide) (mvT hZ (hw _ (List.mem_of_getElem? (i := 22) rfl))) (mvT hZ (hw _ (List.mem_of_getElem? (i := 21) rfl))) (backOf (W := 0) (rm4 l Z a0 hw [] a1 (0 : Int32) h0 n0 Z0 F_ord) hZ (hw _ (List.mem_of_getElem? (i := 24) rfl)) (hw _ (List.mem_of_getElem? (i := 23) rfl)) (by decide) (by decide)) q5a q5c (g := (mkF m 31 #[.val (.ref a1), .val (.ref a2), .val (.int p3), .val (.int (1 : Int32)), .val (.int (0 : Int32))] [(.ref a1)])) rfl (by rw [hml]; rfl) (Steps.refl _) (argsL := []) (rest := []) (lenOf pd_3_3 rfl) rfl (by show 2 * 0 + _ ≤ _; exact Nat.le_of_eq rfl) (hb hby d3_31) (fun _ _ => ⟨rfl, e0, (by decide : 0 + 0 ≤ _), (by decide : 0 + 0 ≤ _)⟩)
  dsimp only [Pt.U, Pt.locs, Pt.cells, Pt.slots] at X5 l5 y5 z5 st5 hQ5
  subst l5 y5 z5
  obtain ⟨rfl, N5q, eh5⟩ := hQ5
  have N5 := Fr.app N0 N5q
  have hC5 := hC
  rw [← eh5] at hC5
  obtain ⟨_, _, ⟨T6, L6, k6, n6⟩, -, X6, ⟨Lc6, hQ6, l6, y6, z6⟩, st6⟩ := Jvm.LawKit.callS X5 hx (y := (⟨"com/example/pesquisa/pesquisa/Measure", "averagePrecision", "([II)D"⟩ : MethodName)) hown (mvT hZ (hw _ (List.mem_of_getElem? (i := 27) rfl))) (mvT hZ (hw _ (List.mem_of_getElem? (i := 28) rfl))) (mvT hZ (hw _ (List.mem_of_getElem? (i := 11) rfl))) (mvT hZ (hw _ (List.mem_of_getElem? (i := 29) rfl))) (by decide) (backOf (W := 0) hC5 hZ (hw _ (List.mem_of_getElem? (i := 29) rfl)) (hw _ (List.mem_of_getElem? (i := 11) rfl)) (by decide) (by decide)) (g := (mkF m 80 #[.val (.ref a1), .val (.ref a2), .val (.int p3), .val (.int (1 : Int32)), .val (.int (0 : Int32))] [(.int p3), (.ref a2)])) rfl (by rw [hml]; rfl) (argsL := [(.ref a2), (.int p3)]) (rest := []) (lenOf pd_3_2 rfl) rfl (by show 2 * 0 + _ ≤ _; exact Nat.le_of_eq rfl) (hb hby d3_80) (fun _ _ => ⟨rfl, rfl, (by decide : 0 + 0 ≤ _), (by decide : 0 + 0 ≤ _)⟩)
  dsimp only [Pt.U, Pt.locs, Pt.cells, Pt.slots] at X6 l6 y6 z6 st6 hQ6
  subst l6 y6 z6
  obtain ⟨rfl, N6q, eh6⟩ := hQ6
  have N6 := Fr.app N5 N6q
  obtain ⟨fs, hr, hrun, hended, hW, hsame⟩ := X6.leave (v := some (.double gA)) (fun h => by rw [Bd.returns] at h; cases h)
  refine ⟨_, _, pre0 _ ?_, hrun, hended, _, _, rfl, ?_, ⟨_, rfl⟩, hW, hsame.mono (by decide) (by decide)⟩
  · show Steps p.tables e below (s₁.setTop (mkF m 0 #[.val (.ref a1), .val (.ref a2), .val (.int p3), .unset, .unset] [])) _
    refine XS.aloadN X0.here hx rfl (hb hby d3_0) rfl rfl ?_
    show Steps p.tables e below (s₁.setTop (mkF m 1 #[.val (.ref a1), .val (.ref a2), .val (.int p3), .unset, .unset] [(.ref a2)])) _
    refine X0.arraylength hx (by rw [e0]; exact Ar_a2.1) (State.isArrayOf_alike hZ.alike Ar_a2.2.1) (g := (mkF m 1 #[.val (.ref a1), .val (.ref a2), .val (.int p3), .unset, .unset] [(.ref a2)])) rfl rfl (hb hby d3_1) _ ?_
    rw [len_of S_a2 N_a2]
    show Steps p.tables e below (s₁.setTop (mkF m 2 #[.val (.ref a1), .val (.ref a2), .val (.int p3), .unset, .unset] [(.int z_a2)])) _
    refine XS.ifNo X0.here hx rfl (hb hby d3_2) rfl ((if0 _ _).trans (tlt hc2).2.2.2) ?_
    show Steps p.tables e below (s₁.setTop (mkF m 5 #[.val (.ref a1), .val (.ref a2), .val (.int p3), .unset, .unset] [])) _
    refine XS.iconst X0.here hx rfl (hb hby d3_5) ?_
    show Steps p.tables e below (s₁.setTop (mkF m 6 #[.val (.ref a1), .val (.ref a2), .val (.int p3), .unset, .unset] [(.int (1 : Int32))])) _
    refine XS.goto X0.here hx rfl (pc0 := 6) (pc' := 10) rfl (hb hby d3_6) (by decide) (by decide) ?_
    show Steps p.tables e below (s₁.setTop (mkF m 10 #[.val (.ref a1), .val (.ref a2), .val (.int p3), .unset, .unset] [(.int (1 : Int32))])) _
    refine XS.istoreN X0.here hx rfl (hb hby d3_10) rfl (l' := #[.val (.ref a1), .val (.ref a2), .val (.int p3), .val (.int (1 : Int32)), .unset]) rfl ?_
    show Steps p.tables e below (s₁.setTop (mkF m 11 #[.val (.ref a1), .val (.ref a2), .val (.int p3), .val (.int (1 : Int32)), .unset] [])) _
    refine XS.iloadN X0.here hx rfl (hb hby d3_11) rfl ?_
    show Steps p.tables e below (s₁.setTop (mkF m 12 #[.val (.ref a1), .val (.ref a2), .val (.int p3), .val (.int (1 : Int32)), .unset] [(.int (1 : Int32))])) _
    refine XS.ifNo X0.here hx rfl (hb hby d3_12) rfl ((if0 _ _).trans (feq (by decide : ¬ ((1 : Int32) = (0 : Int32)))).1) ?_
    show Steps p.tables e below (s₁.setTop (mkF m 15 #[.val (.ref a1), .val (.ref a2), .val (.int p3), .val (.int (1 : Int32)), .unset] [])) _
    refine XS.aloadN X0.here hx rfl (hb hby d3_15) rfl rfl ?_
    show Steps p.tables e below (s₁.setTop (mkF m 16 #[.val (.ref a1), .val (.ref a2), .val (.int p3), .val (.int (1 : Int32)), .unset] [(.ref a2)])) _
    refine XS.iconst X0.here hx rfl (hb hby d3_16) ?_
    show Steps p.tables e below (s₁.setTop (mkF m 17 #[.val (.ref a1), .val (.ref a2), .val (.int p3), .val (.int (1 : Int32)), .unset] [(.int (0 : Int32)), (.ref a2)])) _
    refine X0.iaload hx (j := (0 : Int32)) (v := (.int w4)) (by rw [e0]; exact Ar_a2.1) (State.isArrayOf_alike hZ.alike Ar_a2.2.1) Ar_a2.2.2 hin17 hat17 (g := (mkF m 17 #[.val (.ref a1), .val (.ref a2), .val (.int p3), .val (.int (1 : Int32)), .unset] [(.int (0 : Int32)), (.ref a2)])) rfl rfl (hb hby d3_17) _ ?_
    show Steps p.tables e below (s₁.setTop (mkF m 18 #[.val (.ref a1), .val (.ref a2), .val (.int p3), .val (.int (1 : Int32)), .unset] [(.int w4)])) _
    refine XS.bipush X0.here hx rfl (hb hby d3_18) ?_
    show Steps p.tables e below (s₁.setTop (mkF m 20 #[.val (.ref a1), .val (.ref a2), .val (.int p3), .val (.int (1 : Int32)), .unset] [(.int (10 : Int32)), (.int w4)])) _
    refine XS.icmpYes X0.here hx rfl (pc0 := 20) (pc' := 27) rfl (hb hby d3_20) rfl (tlt hc20).2.2.1 (by decide) (by decide) ?_
    show Steps p.tables e below (s₁.setTop (mkF m 27 #[.val (.ref a1), .val (.ref a2), .val (.int p3), .val (.int (1 : Int32)), .unset] [])) _
    refine XS.iconst X0.here hx rfl (hb hby d3_27) ?_
    show Steps p.tables e below (s₁.setTop (mkF m 28 #[.val (.ref a1), .val (.ref a2), .val (.int p3), .val (.int (1 : Int32)), .unset] [(.int (0 : Int32))])) _
    refine XS.istore X0.here hx rfl (hb hby d3_28) rfl (l' := #[.val (.ref a1), .val (.ref a2), .val (.int p3), .val (.int (1 : Int32)), .val (.int (0 : Int32))]) rfl ?_
    show Steps p.tables e below (s₁.setTop (mkF m 30 #[.val (.ref a1), .val (.ref a2), .val (.int p3), .val (.int (1 : Int32)), .val (.int (0 : Int32))] [])) _
    refine XS.aloadN X0.here hx rfl (hb hby d3_30) rfl rfl ?_
    show Steps p.tables e below (s₁.setTop (mkF m 31 #[.val (.ref a1), .val (.ref a2), .val (.int p3), .val (.int (1 : Int32)), .val (.int (0 : Int32))] [(.ref a1)])) _
    refine st5.trans ?_
    show Steps p.tables e below (T5.setTop (mkF m 34 #[.val (.ref a1), .val (.ref a2), .val (.int p3), .val (.int (1 : Int32)), .val (.int (0 : Int32))] [(.int (0 : Int32))])) _
    refine XS.tswIn X5.here hx rfl (pc0 := 34) (pc' := 78) rfl (hb hby d3_34) rfl (by decide) rfl (by decide) (by decide) ?_
    show Steps p.tables e below (T5.setTop (mkF m 78 #[.val (.ref a1), .val (.ref a2), .val (.int p3), .val (.int (1 : Int32)), .val (.int (0 : Int32))] [])) _
    refine XS.aloadN X5.here hx rfl (hb hby d3_78) rfl rfl ?_
    show Steps p.tables e below (T5.setTop (mkF m 79 #[.val (.ref a1), .val (.ref a2), .val (.int p3), .val (.int (1 : Int32)), .val (.int (0 : Int32))] [(.ref a2)])) _
    refine XS.iloadN X5.here hx rfl (hb hby d3_79) rfl ?_
    show Steps p.tables e below (T5.setTop (mkF m 80 #[.val (.ref a1), .val (.ref a2), .val (.int p3), .val (.int (1 : Int32)), .val (.int (0 : Int32))] [(.int p3), (.ref a2)])) _
    refine st6 _ ?_
    show Steps p.tables e below (T6.setTop (mkF m 83 #[.val (.ref a1), .val (.ref a2), .val (.int p3), .val (.int (1 : Int32)), .val (.int (0 : Int32))] [(.double gA)])) _
    refine XS.goto X6.here hx rfl (pc0 := 83) (pc' := 145) rfl (hb hby d3_83) (by decide) (by decide) ?_
    show Steps p.tables e below (T6.setTop (mkF m 145 #[.val (.ref a1), .val (.ref a2), .val (.int p3), .val (.int (1 : Int32)), .val (.int (0 : Int32))] [(.double gA)])) _
    exact retOut X6 hx Bd.returns rfl (Or.inr (Or.inr (Or.inl ⟨rfl, rfl, _, rfl⟩))) (hb hby d3_145) hr
  · show QP (some (.double gA)) h0 n0 _ T6.heap _
    exact ⟨rfl, N6, eh6.trans eh5⟩
theorem d3_23 : decode prog_6_method_5_code 23 = .ok (.iconst 1, 1) := by decide +kernel
theorem d3_24 : decode prog_6_method_5_code 24 = .ok (.goto 4, 3) := by decide +kernel
set_option maxRecDepth 65536 in
set_option maxHeartbeats 40000000 in
theorem rm3_0ff (l : Launch) (Z : State) (a0 : Array Value) (hw : ∀ d ∈ tables_1, d.before a0 Z = true) (ws : List Jvm.Cond) (a1 : Addr) (a2 : Addr) (p3 : Int32) (cl_a2 : Cell) (z_a2 : Int32) (w4 : Int32) (gA : UInt64) (h0 : Heap) (n0 : Nat) (Z0 : n0 ≤ h0.size) (Ar_a2 : Arr Z h0 a2 cl_a2 .int) (S_a2 : cl_a2.slots.size = z_a2.toNatClampNeg) (N_a2 : ¬ z_a2 < 0) (hin17 : ¬ ((0 : Int32) < 0 ∨ cl_a2.slots.size ≤ ((0 : Int32)).toNatClampNeg)) (hat17 : cl_a2.slots[((0 : Int32)).toNatClampNeg]? = some (.int w4)) (E_a1 : Exa Z h0 a1 "com/example/pesquisa/pesquisa/Measure") (hc2 : (0 : Int32) < z_a2) (hc20 : ¬ ((10 : Int32) < w4)) (F_ord : Fld Z h0 a1 "java/lang/Enum" "ordinal" "I" (.int (0 : Int32))) (hC : MetFree l (⟨"com/example/pesquisa/pesquisa/Measure", "averagePrecision", "([II)D"⟩ : MethodName) (head1 (Jvm.Cond.code (⟨"com/example/pesquisa/pesquisa/Measure", "averagePrecision", "([II)D"⟩ : MethodName) prog_6_method_6_code 5 (some .double) :: []) ({ frames := 0, cells := 0, slots := 0, locals := 0 } : Room)) (fun a U => a = #[(.ref a2), (.int p3)] ∧ Z.Warmed39 U.vm ∧ U.heap = h0) (fun _ _ _ _ _ => True) (fun _ U o U' => ∃ v L, o = .returned v ∧ QP (some (.double gA)) h0 n0 v U'.heap L ∧ FrameEnd U o U' L ({ frames := 0, cells := 0, slots := 0, locals := 0 } : Room).cells ({ frames := 0, cells := 0, slots := 0, locals := 0 } : Room).slots)) :
    MetFree l (⟨"com/example/pesquisa/pesquisa/Measure", "score", "([II)D"⟩ : MethodName) (head1 (Jvm.Cond.code (⟨"com/example/pesquisa/pesquisa/Measure", "score", "([II)D"⟩ : MethodName) prog_6_method_5_code 5 (some .double) :: ws) ({ frames := 1, cells := 0, slots := 0, locals := 40 } : Room)) (fun a U => a = #[(.ref a1), (.ref a2), (.int p3)] ∧ Z.Warmed39 U.vm ∧ U.heap = h0) (fun _ _ _ _ _ => True) (fun _ U o U' => ∃ v L, o = .returned v ∧ QP (some (.double gA)) h0 n0 v U'.heap L ∧ FrameEnd U o U' L ({ frames := 1, cells := 0, slots := 0, locals := 40 } : Room).cells ({ frames := 1, cells := 0, slots := 0, locals := 40 } : Room).slots) := by
  refine MetFree.of_bodySF (plainFor_of_name pn_3) hisR ?_
  intro p e s m args below meth c s₁ Bd hml0 hP hK
  obtain ⟨rfl, hZ, hh⟩ := hP
  have hx := Bd.exec
  have hby := Bd.bytes
  have hml : c.maxLocals = 5 := hml0
  have hown : s.vm.findClass "com/example/pesquisa/pesquisa/Measure" = some m.cls := findClass_of_methodNamed Bd.named
  have hnm := (name_of_methodNamed Bd.named Bd.method).1
  have X0 : Stand p l e ({ frames := 1, cells := 0, slots := 0, locals := 40 } : Room) s m #[(.ref a1), (.ref a2), (.int p3)] below meth c s₁ [] 0 0 := Stand.of_body Bd
  have e0 : s₁.heap = h0 := by rw [← hh, Bd.state]; rfl
  have N0 := Fr.nil n0
  have pre0 : ∀ t, Steps p.tables e below (s₁.setTop (mkF m 0 #[.val (.ref a1), .val (.ref a2), .val (.int p3), .unset, .unset] [])) t → Steps p.tables e below (s₁.setTop (entryFrame m #[(.ref a1), (.ref a2), (.int p3)] 5)) t := fun t k => castTop (ef_3 m a1 a2 p3) k
  obtain ⟨cq5, kq5, q5a, q5b, q5c⟩ := isOf hZ e0 E_a1
  obtain ⟨_, _, ⟨T5, L5, k5, n5⟩, -, X5, ⟨Lc5, hQ5, l5, y5, z5⟩, st5⟩ := X0.virtualBackUp hx (x := (⟨"com/example/pesquisa/pesquisa/Measure", "ordinal", "()I"⟩ : MethodName)) (y := (⟨"java/lang/Enum", "ordinal", "()I"⟩ : MethodName)) hown (mvT hZ (hw _ (List.mem_of_getElem? (i := 18) rfl))) (mvT hZ (hw _ (List.mem_of_getElem? (i := 19) rfl))) (mvT hZ (hw _ (List.mem_of_getElem? (i := 20) rfl))) (by decide) (mvT hZ (hw _ (List.mem_of_getElem? (i := 22) rfl))) (mvT hZ (hw _ (List.mem_of_getElem? (i := 21) rfl))) (backOf (W := 0) (rm4 l Z a0 hw [] a1 (0 : Int32) h0 n0 Z0 F_ord) hZ (hw _ (List.mem_of_getElem? (i := 24) rfl)) (hw _ (List.mem_of_getElem? (i := 23) rfl)) (by decide) (by decide)) q5a q5c (g := (mkF m 31 #[.val (.ref a1), .val (.ref a2), .val (.int p3), .val (.int (1 : Int32)), .val (.int (1 : Int32))] [(.ref a1)])) rfl (by rw [hml]; rfl) (Steps.refl _) (argsL := []) (rest := []) (lenOf pd_3_3 rfl) rfl (by show 2 * 0 + _ ≤ _; exact Nat.le_of_eq rfl) (hb hby d3_31) (fun _ _ => ⟨rfl, e0, (by decide : 0 + 0 ≤ _), (by decide : 0 + 0 ≤ _)⟩)
  dsimp only [Pt.U, Pt.locs, Pt.cells, Pt.slots] at X5 l5 y5 z5 st5 hQ5
  subst l5 y5 z5
  obtain ⟨rfl, N5q, eh5⟩ := hQ5
  have N5 := Fr.app N0 N5q
  have hC5 := hC
  rw [← eh5] at hC5
  obtain ⟨_, _, ⟨T6, L6, k6, n6⟩, -, X6, ⟨Lc6, hQ6, l6, y6, z6⟩, st6⟩ := Jvm.LawKit.callS X5 hx (y := (⟨"com/example/pesquisa/pesquisa/Measure", "averagePrecision", "([II)D"⟩ : MethodName)) hown (mvT hZ (hw _ (List.mem_of_getElem? (i := 27) rfl))) (mvT hZ (hw _ (List.mem_of_getElem? (i := 28) rfl))) (mvT hZ (hw _ (List.mem_of_getElem? (i := 11) rfl))) (mvT hZ (hw _ (List.mem_of_getElem? (i := 29) rfl))) (by decide) (backOf (W := 0) hC5 hZ (hw _ (List.mem_of_getElem? (i := 29) rfl)) (hw _ (List.mem_of_getElem? (i := 11) rfl)) (by decide) (by decide)) (g := (mkF m 80 #[.val (.ref a1), .val (.ref a2), .val (.int p3), .val (.int (1 : Int32)), .val (.int (1 : Int32))] [(.int p3), (.ref a2)])) rfl (by rw [hml]; rfl) (argsL := [(.ref a2), (.int p3)]) (rest := []) (lenOf pd_3_2 rfl) rfl (by show 2 * 0 + _ ≤ _; exact Nat.le_of_eq rfl) (hb hby d3_80) (fun _ _ => ⟨rfl, rfl, (by decide : 0 + 0 ≤ _), (by decide : 0 + 0 ≤ _)⟩)
  dsimp only [Pt.U, Pt.locs, Pt.cells, Pt.slots] at X6 l6 y6 z6 st6 hQ6
  subst l6 y6 z6
  obtain ⟨rfl, N6q, eh6⟩ := hQ6
  have N6 := Fr.app N5 N6q
  obtain ⟨fs, hr, hrun, hended, hW, hsame⟩ := X6.leave (v := some (.double gA)) (fun h => by rw [Bd.returns] at h; cases h)
  refine ⟨_, _, pre0 _ ?_, hrun, hended, _, _, rfl, ?_, ⟨_, rfl⟩, hW, hsame.mono (by decide) (by decide)⟩
  · show Steps p.tables e below (s₁.setTop (mkF m 0 #[.val (.ref a1), .val (.ref a2), .val (.int p3), .unset, .unset] [])) _
    refine XS.aloadN X0.here hx rfl (hb hby d3_0) rfl rfl ?_
    show Steps p.tables e below (s₁.setTop (mkF m 1 #[.val (.ref a1), .val (.ref a2), .val (.int p3), .unset, .unset] [(.ref a2)])) _
    refine X0.arraylength hx (by rw [e0]; exact Ar_a2.1) (State.isArrayOf_alike hZ.alike Ar_a2.2.1) (g := (mkF m 1 #[.val (.ref a1), .val (.ref a2), .val (.int p3), .unset, .unset] [(.ref a2)])) rfl rfl (hb hby d3_1) _ ?_
    rw [len_of S_a2 N_a2]
    show Steps p.tables e below (s₁.setTop (mkF m 2 #[.val (.ref a1), .val (.ref a2), .val (.int p3), .unset, .unset] [(.int z_a2)])) _
    refine XS.ifNo X0.here hx rfl (hb hby d3_2) rfl ((if0 _ _).trans (tlt hc2).2.2.2) ?_
    show Steps p.tables e below (s₁.setTop (mkF m 5 #[.val (.ref a1), .val (.ref a2), .val (.int p3), .unset, .unset] [])) _
    refine XS.iconst X0.here hx rfl (hb hby d3_5) ?_
    show Steps p.tables e below (s₁.setTop (mkF m 6 #[.val (.ref a1), .val (.ref a2), .val (.int p3), .unset, .unset] [(.int (1 : Int32))])) _
    refine XS.goto X0.here hx rfl (pc0 := 6) (pc' := 10) rfl (hb hby d3_6) (by decide) (by decide) ?_
    show Steps p.tables e below (s₁.setTop (mkF m 10 #[.val (.ref a1), .val (.ref a2), .val (.int p3), .unset, .unset] [(.int (1 : Int32))])) _
    refine XS.istoreN X0.here hx rfl (hb hby d3_10) rfl (l' := #[.val (.ref a1), .val (.ref a2), .val (.int p3), .val (.int (1 : Int32)), .unset]) rfl ?_
    show Steps p.tables e below (s₁.setTop (mkF m 11 #[.val (.ref a1), .val (.ref a2), .val (.int p3), .val (.int (1 : Int32)), .unset] [])) _
    refine XS.iloadN X0.here hx rfl (hb hby d3_11) rfl ?_
    show Steps p.tables e below (s₁.setTop (mkF m 12 #[.val (.ref a1), .val (.ref a2), .val (.int p3), .val (.int (1 : Int32)), .unset] [(.int (1 : Int32))])) _
    refine XS.ifNo X0.here hx rfl (hb hby d3_12) rfl ((if0 _ _).trans (feq (by decide : ¬ ((1 : Int32) = (0 : Int32)))).1) ?_
    show Steps p.tables e below (s₁.setTop (mkF m 15 #[.val (.ref a1), .val (.ref a2), .val (.int p3), .val (.int (1 : Int32)), .unset] [])) _
    refine XS.aloadN X0.here hx rfl (hb hby d3_15) rfl rfl ?_
    show Steps p.tables e below (s₁.setTop (mkF m 16 #[.val (.ref a1), .val (.ref a2), .val (.int p3), .val (.int (1 : Int32)), .unset] [(.ref a2)])) _
    refine XS.iconst X0.here hx rfl (hb hby d3_16) ?_
    show Steps p.tables e below (s₁.setTop (mkF m 17 #[.val (.ref a1), .val (.ref a2), .val (.int p3), .val (.int (1 : Int32)), .unset] [(.int (0 : Int32)), (.ref a2)])) _
    refine X0.iaload hx (j := (0 : Int32)) (v := (.int w4)) (by rw [e0]; exact Ar_a2.1) (State.isArrayOf_alike hZ.alike Ar_a2.2.1) Ar_a2.2.2 hin17 hat17 (g := (mkF m 17 #[.val (.ref a1), .val (.ref a2), .val (.int p3), .val (.int (1 : Int32)), .unset] [(.int (0 : Int32)), (.ref a2)])) rfl rfl (hb hby d3_17) _ ?_
    show Steps p.tables e below (s₁.setTop (mkF m 18 #[.val (.ref a1), .val (.ref a2), .val (.int p3), .val (.int (1 : Int32)), .unset] [(.int w4)])) _
    refine XS.bipush X0.here hx rfl (hb hby d3_18) ?_
    show Steps p.tables e below (s₁.setTop (mkF m 20 #[.val (.ref a1), .val (.ref a2), .val (.int p3), .val (.int (1 : Int32)), .unset] [(.int (10 : Int32)), (.int w4)])) _
    refine XS.icmpNo X0.here hx rfl (hb hby d3_20) rfl (flt hc20).2.2.1 ?_
    show Steps p.tables e below (s₁.setTop (mkF m 23 #[.val (.ref a1), .val (.ref a2), .val (.int p3), .val (.int (1 : Int32)), .unset] [])) _
    refine XS.iconst X0.here hx rfl (hb hby d3_23) ?_
    show Steps p.tables e below (s₁.setTop (mkF m 24 #[.val (.ref a1), .val (.ref a2), .val (.int p3), .val (.int (1 : Int32)), .unset] [(.int (1 : Int32))])) _
    refine XS.goto X0.here hx rfl (pc0 := 24) (pc' := 28) rfl (hb hby d3_24) (by decide) (by decide) ?_
    show Steps p.tables e below (s₁.setTop (mkF m 28 #[.val (.ref a1), .val (.ref a2), .val (.int p3), .val (.int (1 : Int32)), .unset] [(.int (1 : Int32))])) _
    refine XS.istore X0.here hx rfl (hb hby d3_28) rfl (l' := #[.val (.ref a1), .val (.ref a2), .val (.int p3), .val (.int (1 : Int32)), .val (.int (1 : Int32))]) rfl ?_
    show Steps p.tables e below (s₁.setTop (mkF m 30 #[.val (.ref a1), .val (.ref a2), .val (.int p3), .val (.int (1 : Int32)), .val (.int (1 : Int32))] [])) _
    refine XS.aloadN X0.here hx rfl (hb hby d3_30) rfl rfl ?_
    show Steps p.tables e below (s₁.setTop (mkF m 31 #[.val (.ref a1), .val (.ref a2), .val (.int p3), .val (.int (1 : Int32)), .val (.int (1 : Int32))] [(.ref a1)])) _
    refine st5.trans ?_
    show Steps p.tables e below (T5.setTop (mkF m 34 #[.val (.ref a1), .val (.ref a2), .val (.int p3), .val (.int (1 : Int32)), .val (.int (1 : Int32))] [(.int (0 : Int32))])) _
    refine XS.tswIn X5.here hx rfl (pc0 := 34) (pc' := 78) rfl (hb hby d3_34) rfl (by decide) rfl (by decide) (by decide) ?_
    show Steps p.tables e below (T5.setTop (mkF m 78 #[.val (.ref a1), .val (.ref a2), .val (.int p3), .val (.int (1 : Int32)), .val (.int (1 : Int32))] [])) _
    refine XS.aloadN X5.here hx rfl (hb hby d3_78) rfl rfl ?_
    show Steps p.tables e below (T5.setTop (mkF m 79 #[.val (.ref a1), .val (.ref a2), .val (.int p3), .val (.int (1 : Int32)), .val (.int (1 : Int32))] [(.ref a2)])) _
    refine XS.iloadN X5.here hx rfl (hb hby d3_79) rfl ?_
    show Steps p.tables e below (T5.setTop (mkF m 80 #[.val (.ref a1), .val (.ref a2), .val (.int p3), .val (.int (1 : Int32)), .val (.int (1 : Int32))] [(.int p3), (.ref a2)])) _
    refine st6 _ ?_
    show Steps p.tables e below (T6.setTop (mkF m 83 #[.val (.ref a1), .val (.ref a2), .val (.int p3), .val (.int (1 : Int32)), .val (.int (1 : Int32))] [(.double gA)])) _
    refine XS.goto X6.here hx rfl (pc0 := 83) (pc' := 145) rfl (hb hby d3_83) (by decide) (by decide) ?_
    show Steps p.tables e below (T6.setTop (mkF m 145 #[.val (.ref a1), .val (.ref a2), .val (.int p3), .val (.int (1 : Int32)), .val (.int (1 : Int32))] [(.double gA)])) _
    exact retOut X6 hx Bd.returns rfl (Or.inr (Or.inr (Or.inl ⟨rfl, rfl, _, rfl⟩))) (hb hby d3_145) hr
  · show QP (some (.double gA)) h0 n0 _ T6.heap _
    exact ⟨rfl, N6, eh6.trans eh5⟩
theorem d3_86 : decode prog_6_method_5_code 86 = .ok (.aload_n 1, 1) := by decide +kernel
theorem d3_87 : decode prog_6_method_5_code 87 = .ok (.bipush 10, 2) := by decide +kernel
theorem d3_89 : decode prog_6_method_5_code 89 = .ok (.invokestatic 55, 3) := by decide +kernel
theorem d3_92 : decode prog_6_method_5_code 92 = .ok (.i2d, 1) := by decide +kernel
theorem d3_93 : decode prog_6_method_5_code 93 = .ok (.ldc2_w 59, 3) := by decide +kernel
theorem d3_96 : decode prog_6_method_5_code 96 = .ok (.ddiv, 1) := by decide +kernel
theorem d3_97 : decode prog_6_method_5_code 97 = .ok (.goto 48, 3) := by decide +kernel
theorem pd_3_4 : parseMethodDescriptor "([II)I" = some ⟨[(.array .int), .int], some .int⟩ := by decide +kernel
set_option maxRecDepth 65536 in
set_option maxHeartbeats 40000000 in
theorem rm3_1t (l : Launch) (Z : State) (a0 : Array Value) (hw : ∀ d ∈ tables_1, d.before a0 Z = true) (ws : List Jvm.Cond) (a1 : Addr) (a2 : Addr) (p3 : Int32) (cl_a2 : Cell) (z_a2 : Int32) (r96 : UInt64) (gF : Int32) (h0 : Heap) (n0 : Nat) (Z0 : n0 ≤ h0.size) (Ar_a2 : Arr Z h0 a2 cl_a2 .int) (S_a2 : cl_a2.slots.size = z_a2.toNatClampNeg) (N_a2 : ¬ z_a2 < 0) (E_a1 : Exa Z h0 a1 "com/example/pesquisa/pesquisa/Measure") (hc2 : ¬ ((0 : Int32) < z_a2)) (hv96 : (FP.ddiv (FP.i2d gF) (4621819117588971520 : UInt64)) = r96) (hn96 : Jvm.Free.Fl.NoNaN64 (FP.ddiv (FP.i2d gF) (4621819117588971520 : UInt64))) (F_ord : Fld Z h0 a1 "java/lang/Enum" "ordinal" "I" (.int (1 : Int32))) (hC : MetFree l (⟨"com/example/pesquisa/pesquisa/Measure", "foundBy", "([II)I"⟩ : MethodName) (head1 (Jvm.Cond.code (⟨"com/example/pesquisa/pesquisa/Measure", "foundBy", "([II)I"⟩ : MethodName) prog_6_method_7_code 3 (some .int) :: []) ({ frames := 0, cells := 0, slots := 0, locals := 0 } : Room)) (fun a U => a = #[(.ref a2), (.int (10 : Int32))] ∧ Z.Warmed39 U.vm ∧ U.heap = h0) (fun _ _ _ _ _ => True) (fun _ U o U' => ∃ v L, o = .returned v ∧ QP (some (.int gF)) h0 n0 v U'.heap L ∧ FrameEnd U o U' L ({ frames := 0, cells := 0, slots := 0, locals := 0 } : Room).cells ({ frames := 0, cells := 0, slots := 0, locals := 0 } : Room).slots)) :
    MetFree l (⟨"com/example/pesquisa/pesquisa/Measure", "score", "([II)D"⟩ : MethodName) (head1 (Jvm.Cond.code (⟨"com/example/pesquisa/pesquisa/Measure", "score", "([II)D"⟩ : MethodName) prog_6_method_5_code 5 (some .double) :: ws) ({ frames := 1, cells := 0, slots := 0, locals := 40 } : Room)) (fun a U => a = #[(.ref a1), (.ref a2), (.int p3)] ∧ Z.Warmed39 U.vm ∧ U.heap = h0) (fun _ _ _ _ _ => True) (fun _ U o U' => ∃ v L, o = .returned v ∧ QP (some (.double r96)) h0 n0 v U'.heap L ∧ FrameEnd U o U' L ({ frames := 1, cells := 0, slots := 0, locals := 40 } : Room).cells ({ frames := 1, cells := 0, slots := 0, locals := 40 } : Room).slots) := by
  refine MetFree.of_bodySF (plainFor_of_name pn_3) hisR ?_
  intro p e s m args below meth c s₁ Bd hml0 hP hK
  obtain ⟨rfl, hZ, hh⟩ := hP
  have hx := Bd.exec
  have hby := Bd.bytes
  have hml : c.maxLocals = 5 := hml0
  have hown : s.vm.findClass "com/example/pesquisa/pesquisa/Measure" = some m.cls := findClass_of_methodNamed Bd.named
  have hnm := (name_of_methodNamed Bd.named Bd.method).1
  have X0 : Stand p l e ({ frames := 1, cells := 0, slots := 0, locals := 40 } : Room) s m #[(.ref a1), (.ref a2), (.int p3)] below meth c s₁ [] 0 0 := Stand.of_body Bd
  have e0 : s₁.heap = h0 := by rw [← hh, Bd.state]; rfl
  have N0 := Fr.nil n0
  have pre0 : ∀ t, Steps p.tables e below (s₁.setTop (mkF m 0 #[.val (.ref a1), .val (.ref a2), .val (.int p3), .unset, .unset] [])) t → Steps p.tables e below (s₁.setTop (entryFrame m #[(.ref a1), (.ref a2), (.int p3)] 5)) t := fun t k => castTop (ef_3 m a1 a2 p3) k
  obtain ⟨cq4, kq4, q4a, q4b, q4c⟩ := isOf hZ e0 E_a1
  obtain ⟨_, _, ⟨T4, L4, k4, n4⟩, -, X4, ⟨Lc4, hQ4, l4, y4, z4⟩, st4⟩ := X0.virtualBackUp hx (x := (⟨"com/example/pesquisa/pesquisa/Measure", "ordinal", "()I"⟩ : MethodName)) (y := (⟨"java/lang/Enum", "ordinal", "()I"⟩ : MethodName)) hown (mvT hZ (hw _ (List.mem_of_getElem? (i := 18) rfl))) (mvT hZ (hw _ (List.mem_of_getElem? (i := 19) rfl))) (mvT hZ (hw _ (List.mem_of_getElem? (i := 20) rfl))) (by decide) (mvT hZ (hw _ (List.mem_of_getElem? (i := 22) rfl))) (mvT hZ (hw _ (List.mem_of_getElem? (i := 21) rfl))) (backOf (W := 0) (rm4 l Z a0 hw [] a1 (1 : Int32) h0 n0 Z0 F_ord) hZ (hw _ (List.mem_of_getElem? (i := 24) rfl)) (hw _ (List.mem_of_getElem? (i := 23) rfl)) (by decide) (by decide)) q4a q4c (g := (mkF m 31 #[.val (.ref a1), .val (.ref a2), .val (.int p3), .val (.int (0 : Int32)), .val (.int (0 : Int32))] [(.ref a1)])) rfl (by rw [hml]; rfl) (Steps.refl _) (argsL := []) (rest := []) (lenOf pd_3_3 rfl) rfl (by show 2 * 0 + _ ≤ _; exact Nat.le_of_eq rfl) (hb hby d3_31) (fun _ _ => ⟨rfl, e0, (by decide : 0 + 0 ≤ _), (by decide : 0 + 0 ≤ _)⟩)
  dsimp only [Pt.U, Pt.locs, Pt.cells, Pt.slots] at X4 l4 y4 z4 st4 hQ4
  subst l4 y4 z4
  obtain ⟨rfl, N4q, eh4⟩ := hQ4
  have N4 := Fr.app N0 N4q
  have hC5 := hC
  rw [← eh4] at hC5
  obtain ⟨_, _, ⟨T5, L5, k5, n5⟩, -, X5, ⟨Lc5, hQ5, l5, y5, z5⟩, st5⟩ := Jvm.LawKit.callS X4 hx (y := (⟨"com/example/pesquisa/pesquisa/Measure", "foundBy", "([II)I"⟩ : MethodName)) hown (mvT hZ (hw _ (List.mem_of_getElem? (i := 38) rfl))) (mvT hZ (hw _ (List.mem_of_getElem? (i := 39) rfl))) (mvT hZ (hw _ (List.mem_of_getElem? (i := 11) rfl))) (mvT hZ (hw _ (List.mem_of_getElem? (i := 40) rfl))) (by decide) (backOf (W := 0) hC5 hZ (hw _ (List.mem_of_getElem? (i := 40) rfl)) (hw _ (List.mem_of_getElem? (i := 11) rfl)) (by decide) (by decide)) (g := (mkF m 89 #[.val (.ref a1), .val (.ref a2), .val (.int p3), .val (.int (0 : Int32)), .val (.int (0 : Int32))] [(.int (10 : Int32)), (.ref a2)])) rfl (by rw [hml]; rfl) (argsL := [(.ref a2), (.int (10 : Int32))]) (rest := []) (lenOf pd_3_4 rfl) rfl (by show 2 * 0 + _ ≤ _; exact Nat.le_of_eq rfl) (hb hby d3_89) (fun _ _ => ⟨rfl, rfl, (by decide : 0 + 0 ≤ _), (by decide : 0 + 0 ≤ _)⟩)
  dsimp only [Pt.U, Pt.locs, Pt.cells, Pt.slots] at X5 l5 y5 z5 st5 hQ5
  subst l5 y5 z5
  obtain ⟨rfl, N5q, eh5⟩ := hQ5
  have N5 := Fr.app N4 N5q
  obtain ⟨fs, hr, hrun, hended, hW, hsame⟩ := X5.leave (v := some (.double r96)) (fun h => by rw [Bd.returns] at h; cases h)
  refine ⟨_, _, pre0 _ ?_, hrun, hended, _, _, rfl, ?_, ⟨_, rfl⟩, hW, hsame.mono (by decide) (by decide)⟩
  · show Steps p.tables e below (s₁.setTop (mkF m 0 #[.val (.ref a1), .val (.ref a2), .val (.int p3), .unset, .unset] [])) _
    refine XS.aloadN X0.here hx rfl (hb hby d3_0) rfl rfl ?_
    show Steps p.tables e below (s₁.setTop (mkF m 1 #[.val (.ref a1), .val (.ref a2), .val (.int p3), .unset, .unset] [(.ref a2)])) _
    refine X0.arraylength hx (by rw [e0]; exact Ar_a2.1) (State.isArrayOf_alike hZ.alike Ar_a2.2.1) (g := (mkF m 1 #[.val (.ref a1), .val (.ref a2), .val (.int p3), .unset, .unset] [(.ref a2)])) rfl rfl (hb hby d3_1) _ ?_
    rw [len_of S_a2 N_a2]
    show Steps p.tables e below (s₁.setTop (mkF m 2 #[.val (.ref a1), .val (.ref a2), .val (.int p3), .unset, .unset] [(.int z_a2)])) _
    refine XS.ifYes X0.here hx rfl (pc0 := 2) (pc' := 9) rfl (hb hby d3_2) rfl ((if0 _ _).trans (flt hc2).2.2.2) (by decide) (by decide) ?_
    show Steps p.tables e below (s₁.setTop (mkF m 9 #[.val (.ref a1), .val (.ref a2), .val (.int p3), .unset, .unset] [])) _
    refine XS.iconst X0.here hx rfl (hb hby d3_9) ?_
    show Steps p.tables e below (s₁.setTop (mkF m 10 #[.val (.ref a1), .val (.ref a2), .val (.int p3), .unset, .unset] [(.int (0 : Int32))])) _
    refine XS.istoreN X0.here hx rfl (hb hby d3_10) rfl (l' := #[.val (.ref a1), .val (.ref a2), .val (.int p3), .val (.int (0 : Int32)), .unset]) rfl ?_
    show Steps p.tables e below (s₁.setTop (mkF m 11 #[.val (.ref a1), .val (.ref a2), .val (.int p3), .val (.int (0 : Int32)), .unset] [])) _
    refine XS.iloadN X0.here hx rfl (hb hby d3_11) rfl ?_
    show Steps p.tables e below (s₁.setTop (mkF m 12 #[.val (.ref a1), .val (.ref a2), .val (.int p3), .val (.int (0 : Int32)), .unset] [(.int (0 : Int32))])) _
    refine XS.ifYes X0.here hx rfl (pc0 := 12) (pc' := 27) rfl (hb hby d3_12) rfl ((if0 _ _).trans (teq (by decide : (0 : Int32) = (0 : Int32))).1) (by decide) (by decide) ?_
    show Steps p.tables e below (s₁.setTop (mkF m 27 #[.val (.ref a1), .val (.ref a2), .val (.int p3), .val (.int (0 : Int32)), .unset] [])) _
    refine XS.iconst X0.here hx rfl (hb hby d3_27) ?_
    show Steps p.tables e below (s₁.setTop (mkF m 28 #[.val (.ref a1), .val (.ref a2), .val (.int p3), .val (.int (0 : Int32)), .unset] [(.int (0 : Int32))])) _
    refine XS.istore X0.here hx rfl (hb hby d3_28) rfl (l' := #[.val (.ref a1), .val (.ref a2), .val (.int p3), .val (.int (0 : Int32)), .val (.int (0 : Int32))]) rfl ?_
    show Steps p.tables e below (s₁.setTop (mkF m 30 #[.val (.ref a1), .val (.ref a2), .val (.int p3), .val (.int (0 : Int32)), .val (.int (0 : Int32))] [])) _
    refine XS.aloadN X0.here hx rfl (hb hby d3_30) rfl rfl ?_
    show Steps p.tables e below (s₁.setTop (mkF m 31 #[.val (.ref a1), .val (.ref a2), .val (.int p3), .val (.int (0 : Int32)), .val (.int (0 : Int32))] [(.ref a1)])) _
    refine st4.trans ?_
    show Steps p.tables e below (T4.setTop (mkF m 34 #[.val (.ref a1), .val (.ref a2), .val (.int p3), .val (.int (0 : Int32)), .val (.int (0 : Int32))] [(.int (1 : Int32))])) _
    refine XS.tswIn X4.here hx rfl (pc0 := 34) (pc' := 86) rfl (hb hby d3_34) rfl (by decide) rfl (by decide) (by decide) ?_
    show Steps p.tables e below (T4.setTop (mkF m 86 #[.val (.ref a1), .val (.ref a2), .val (.int p3), .val (.int (0 : Int32)), .val (.int (0 : Int32))] [])) _
    refine XS.aloadN X4.here hx rfl (hb hby d3_86) rfl rfl ?_
    show Steps p.tables e below (T4.setTop (mkF m 87 #[.val (.ref a1), .val (.ref a2), .val (.int p3), .val (.int (0 : Int32)), .val (.int (0 : Int32))] [(.ref a2)])) _
    refine XS.bipush X4.here hx rfl (hb hby d3_87) ?_
    show Steps p.tables e below (T4.setTop (mkF m 89 #[.val (.ref a1), .val (.ref a2), .val (.int p3), .val (.int (0 : Int32)), .val (.int (0 : Int32))] [(.int (10 : Int32)), (.ref a2)])) _
    refine st5 _ ?_
    show Steps p.tables e below (T5.setTop (mkF m 92 #[.val (.ref a1), .val (.ref a2), .val (.int p3), .val (.int (0 : Int32)), .val (.int (0 : Int32))] [(.int gF)])) _
    refine XS.i2dS X5.here hx rfl (hb hby d3_92) rfl rfl ?_
    show Steps p.tables e below (T5.setTop (mkF m 93 #[.val (.ref a1), .val (.ref a2), .val (.int p3), .val (.int (0 : Int32)), .val (.int (0 : Int32))] [(.double (FP.i2d gF))])) _
    refine X5.ldc2DoubleC hx hown (mvT hZ (hw _ (List.mem_of_getElem? (i := 41) rfl))) (g := (mkF m 93 #[.val (.ref a1), .val (.ref a2), .val (.int p3), .val (.int (0 : Int32)), .val (.int (0 : Int32))] [(.double (FP.i2d gF))])) rfl (hb hby d3_93) _ ?_
    show Steps p.tables e below (T5.setTop (mkF m 96 #[.val (.ref a1), .val (.ref a2), .val (.int p3), .val (.int (0 : Int32)), .val (.int (0 : Int32))] [(.double (4621819117588971520 : UInt64)), (.double (FP.i2d gF))])) _
    refine XS.ddivS X5.here hx rfl (hb hby d3_96) rfl hn96 hv96 ?_
    show Steps p.tables e below (T5.setTop (mkF m 97 #[.val (.ref a1), .val (.ref a2), .val (.int p3), .val (.int (0 : Int32)), .val (.int (0 : Int32))] [(.double r96)])) _
    refine XS.goto X5.here hx rfl (pc0 := 97) (pc' := 145) rfl (hb hby d3_97) (by decide) (by decide) ?_
    show Steps p.tables e below (T5.setTop (mkF m 145 #[.val (.ref a1), .val (.ref a2), .val (.int p3), .val (.int (0 : Int32)), .val (.int (0 : Int32))] [(.double r96)])) _
    exact retOut X5 hx Bd.returns rfl (Or.inr (Or.inr (Or.inl ⟨rfl, rfl, _, rfl⟩))) (hb hby d3_145) hr
  · show QP (some (.double r96)) h0 n0 _ T5.heap _
    exact ⟨rfl, N5, eh5.trans eh4⟩
set_option maxRecDepth 65536 in
set_option maxHeartbeats 40000000 in
theorem rm3_1ft (l : Launch) (Z : State) (a0 : Array Value) (hw : ∀ d ∈ tables_1, d.before a0 Z = true) (ws : List Jvm.Cond) (a1 : Addr) (a2 : Addr) (p3 : Int32) (cl_a2 : Cell) (z_a2 : Int32) (w4 : Int32) (r96 : UInt64) (gF : Int32) (h0 : Heap) (n0 : Nat) (Z0 : n0 ≤ h0.size) (Ar_a2 : Arr Z h0 a2 cl_a2 .int) (S_a2 : cl_a2.slots.size = z_a2.toNatClampNeg) (N_a2 : ¬ z_a2 < 0) (hin17 : ¬ ((0 : Int32) < 0 ∨ cl_a2.slots.size ≤ ((0 : Int32)).toNatClampNeg)) (hat17 : cl_a2.slots[((0 : Int32)).toNatClampNeg]? = some (.int w4)) (E_a1 : Exa Z h0 a1 "com/example/pesquisa/pesquisa/Measure") (hc2 : (0 : Int32) < z_a2) (hc20 : (10 : Int32) < w4) (hv96 : (FP.ddiv (FP.i2d gF) (4621819117588971520 : UInt64)) = r96) (hn96 : Jvm.Free.Fl.NoNaN64 (FP.ddiv (FP.i2d gF) (4621819117588971520 : UInt64))) (F_ord : Fld Z h0 a1 "java/lang/Enum" "ordinal" "I" (.int (1 : Int32))) (hC : MetFree l (⟨"com/example/pesquisa/pesquisa/Measure", "foundBy", "([II)I"⟩ : MethodName) (head1 (Jvm.Cond.code (⟨"com/example/pesquisa/pesquisa/Measure", "foundBy", "([II)I"⟩ : MethodName) prog_6_method_7_code 3 (some .int) :: []) ({ frames := 0, cells := 0, slots := 0, locals := 0 } : Room)) (fun a U => a = #[(.ref a2), (.int (10 : Int32))] ∧ Z.Warmed39 U.vm ∧ U.heap = h0) (fun _ _ _ _ _ => True) (fun _ U o U' => ∃ v L, o = .returned v ∧ QP (some (.int gF)) h0 n0 v U'.heap L ∧ FrameEnd U o U' L ({ frames := 0, cells := 0, slots := 0, locals := 0 } : Room).cells ({ frames := 0, cells := 0, slots := 0, locals := 0 } : Room).slots)) :
    MetFree l (⟨"com/example/pesquisa/pesquisa/Measure", "score", "([II)D"⟩ : MethodName) (head1 (Jvm.Cond.code (⟨"com/example/pesquisa/pesquisa/Measure", "score", "([II)D"⟩ : MethodName) prog_6_method_5_code 5 (some .double) :: ws) ({ frames := 1, cells := 0, slots := 0, locals := 40 } : Room)) (fun a U => a = #[(.ref a1), (.ref a2), (.int p3)] ∧ Z.Warmed39 U.vm ∧ U.heap = h0) (fun _ _ _ _ _ => True) (fun _ U o U' => ∃ v L, o = .returned v ∧ QP (some (.double r96)) h0 n0 v U'.heap L ∧ FrameEnd U o U' L ({ frames := 1, cells := 0, slots := 0, locals := 40 } : Room).cells ({ frames := 1, cells := 0, slots := 0, locals := 40 } : Room).slots) := by
  refine MetFree.of_bodySF (plainFor_of_name pn_3) hisR ?_
  intro p e s m args below meth c s₁ Bd hml0 hP hK
  obtain ⟨rfl, hZ, hh⟩ := hP
  have hx := Bd.exec
  have hby := Bd.bytes
  have hml : c.maxLocals = 5 := hml0
  have hown : s.vm.findClass "com/example/pesquisa/pesquisa/Measure" = some m.cls := findClass_of_methodNamed Bd.named
  have hnm := (name_of_methodNamed Bd.named Bd.method).1
  have X0 : Stand p l e ({ frames := 1, cells := 0, slots := 0, locals := 40 } : Room) s m #[(.ref a1), (.ref a2), (.int p3)] below meth c s₁ [] 0 0 := Stand.of_body Bd
  have e0 : s₁.heap = h0 := by rw [← hh, Bd.state]; rfl
  have N0 := Fr.nil n0
  have pre0 : ∀ t, Steps p.tables e below (s₁.setTop (mkF m 0 #[.val (.ref a1), .val (.ref a2), .val (.int p3), .unset, .unset] [])) t → Steps p.tables e below (s₁.setTop (entryFrame m #[(.ref a1), (.ref a2), (.int p3)] 5)) t := fun t k => castTop (ef_3 m a1 a2 p3) k
  obtain ⟨cq5, kq5, q5a, q5b, q5c⟩ := isOf hZ e0 E_a1
  obtain ⟨_, _, ⟨T5, L5, k5, n5⟩, -, X5, ⟨Lc5, hQ5, l5, y5, z5⟩, st5⟩ := X0.virtualBackUp hx (x := (⟨"com/example/pesquisa/pesquisa/Measure", "ordinal", "()I"⟩ : MethodName)) (y := (⟨"java/lang/Enum", "ordinal", "()I"⟩ : MethodName)) hown (mvT hZ (hw _ (List.mem_of_getElem? (i := 18) rfl))) (mvT hZ (hw _ (List.mem_of_getElem? (i := 19) rfl))) (mvT hZ (hw _ (List.mem_of_getElem? (i := 20) rfl))) (by decide) (mvT hZ (hw _ (List.mem_of_getElem? (i := 22) rfl))) (mvT hZ (hw _ (List.mem_of_getElem? (i := 21) rfl))) (backOf (W := 0) (rm4 l Z a0 hw [] a1 (1 : Int32) h0 n0 Z0 F_ord) hZ (hw _ (List.mem_of_getElem? (i := 24) rfl)) (hw _ (List.mem_of_getElem? (i := 23) rfl)) (by decide) (by decide)) q5a q5c (g := (mkF m 31 #[.val (.ref a1), .val (.ref a2), .val (.int p3), .val (.int (1 : Int32)), .val (.int (0 : Int32))] [(.ref a1)])) rfl (by rw [hml]; rfl) (Steps.refl _) (argsL := []) (rest := []) (lenOf pd_3_3 rfl) rfl (by show 2 * 0 + _ ≤ _; exact Nat.le_of_eq rfl) (hb hby d3_31) (fun _ _ => ⟨rfl, e0, (by decide : 0 + 0 ≤ _), (by decide : 0 + 0 ≤ _)⟩)
  dsimp only [Pt.U, Pt.locs, Pt.cells, Pt.slots] at X5 l5 y5 z5 st5 hQ5
  subst l5 y5 z5
  obtain ⟨rfl, N5q, eh5⟩ := hQ5
  have N5 := Fr.app N0 N5q
  have hC5 := hC
  rw [← eh5] at hC5
  obtain ⟨_, _, ⟨T6, L6, k6, n6⟩, -, X6, ⟨Lc6, hQ6, l6, y6, z6⟩, st6⟩ := Jvm.LawKit.callS X5 hx (y := (⟨"com/example/pesquisa/pesquisa/Measure", "foundBy", "([II)I"⟩ : MethodName)) hown (mvT hZ (hw _ (List.mem_of_getElem? (i := 38) rfl))) (mvT hZ (hw _ (List.mem_of_getElem? (i := 39) rfl))) (mvT hZ (hw _ (List.mem_of_getElem? (i := 11) rfl))) (mvT hZ (hw _ (List.mem_of_getElem? (i := 40) rfl))) (by decide) (backOf (W := 0) hC5 hZ (hw _ (List.mem_of_getElem? (i := 40) rfl)) (hw _ (List.mem_of_getElem? (i := 11) rfl)) (by decide) (by decide)) (g := (mkF m 89 #[.val (.ref a1), .val (.ref a2), .val (.int p3), .val (.int (1 : Int32)), .val (.int (0 : Int32))] [(.int (10 : Int32)), (.ref a2)])) rfl (by rw [hml]; rfl) (argsL := [(.ref a2), (.int (10 : Int32))]) (rest := []) (lenOf pd_3_4 rfl) rfl (by show 2 * 0 + _ ≤ _; exact Nat.le_of_eq rfl) (hb hby d3_89) (fun _ _ => ⟨rfl, rfl, (by decide : 0 + 0 ≤ _), (by decide : 0 + 0 ≤ _)⟩)
  dsimp only [Pt.U, Pt.locs, Pt.cells, Pt.slots] at X6 l6 y6 z6 st6 hQ6
  subst l6 y6 z6
  obtain ⟨rfl, N6q, eh6⟩ := hQ6
  have N6 := Fr.app N5 N6q
  obtain ⟨fs, hr, hrun, hended, hW, hsame⟩ := X6.leave (v := some (.double r96)) (fun h => by rw [Bd.returns] at h; cases h)
  refine ⟨_, _, pre0 _ ?_, hrun, hended, _, _, rfl, ?_, ⟨_, rfl⟩, hW, hsame.mono (by decide) (by decide)⟩
  · show Steps p.tables e below (s₁.setTop (mkF m 0 #[.val (.ref a1), .val (.ref a2), .val (.int p3), .unset, .unset] [])) _
    refine XS.aloadN X0.here hx rfl (hb hby d3_0) rfl rfl ?_
    show Steps p.tables e below (s₁.setTop (mkF m 1 #[.val (.ref a1), .val (.ref a2), .val (.int p3), .unset, .unset] [(.ref a2)])) _
    refine X0.arraylength hx (by rw [e0]; exact Ar_a2.1) (State.isArrayOf_alike hZ.alike Ar_a2.2.1) (g := (mkF m 1 #[.val (.ref a1), .val (.ref a2), .val (.int p3), .unset, .unset] [(.ref a2)])) rfl rfl (hb hby d3_1) _ ?_
    rw [len_of S_a2 N_a2]
    show Steps p.tables e below (s₁.setTop (mkF m 2 #[.val (.ref a1), .val (.ref a2), .val (.int p3), .unset, .unset] [(.int z_a2)])) _
    refine XS.ifNo X0.here hx rfl (hb hby d3_2) rfl ((if0 _ _).trans (tlt hc2).2.2.2) ?_
    show Steps p.tables e below (s₁.setTop (mkF m 5 #[.val (.ref a1), .val (.ref a2), .val (.int p3), .unset, .unset] [])) _
    refine XS.iconst X0.here hx rfl (hb hby d3_5) ?_
    show Steps p.tables e below (s₁.setTop (mkF m 6 #[.val (.ref a1), .val (.ref a2), .val (.int p3), .unset, .unset] [(.int (1 : Int32))])) _
    refine XS.goto X0.here hx rfl (pc0 := 6) (pc' := 10) rfl (hb hby d3_6) (by decide) (by decide) ?_
    show Steps p.tables e below (s₁.setTop (mkF m 10 #[.val (.ref a1), .val (.ref a2), .val (.int p3), .unset, .unset] [(.int (1 : Int32))])) _
    refine XS.istoreN X0.here hx rfl (hb hby d3_10) rfl (l' := #[.val (.ref a1), .val (.ref a2), .val (.int p3), .val (.int (1 : Int32)), .unset]) rfl ?_
    show Steps p.tables e below (s₁.setTop (mkF m 11 #[.val (.ref a1), .val (.ref a2), .val (.int p3), .val (.int (1 : Int32)), .unset] [])) _
    refine XS.iloadN X0.here hx rfl (hb hby d3_11) rfl ?_
    show Steps p.tables e below (s₁.setTop (mkF m 12 #[.val (.ref a1), .val (.ref a2), .val (.int p3), .val (.int (1 : Int32)), .unset] [(.int (1 : Int32))])) _
    refine XS.ifNo X0.here hx rfl (hb hby d3_12) rfl ((if0 _ _).trans (feq (by decide : ¬ ((1 : Int32) = (0 : Int32)))).1) ?_
    show Steps p.tables e below (s₁.setTop (mkF m 15 #[.val (.ref a1), .val (.ref a2), .val (.int p3), .val (.int (1 : Int32)), .unset] [])) _
    refine XS.aloadN X0.here hx rfl (hb hby d3_15) rfl rfl ?_
    show Steps p.tables e below (s₁.setTop (mkF m 16 #[.val (.ref a1), .val (.ref a2), .val (.int p3), .val (.int (1 : Int32)), .unset] [(.ref a2)])) _
    refine XS.iconst X0.here hx rfl (hb hby d3_16) ?_
    show Steps p.tables e below (s₁.setTop (mkF m 17 #[.val (.ref a1), .val (.ref a2), .val (.int p3), .val (.int (1 : Int32)), .unset] [(.int (0 : Int32)), (.ref a2)])) _
    refine X0.iaload hx (j := (0 : Int32)) (v := (.int w4)) (by rw [e0]; exact Ar_a2.1) (State.isArrayOf_alike hZ.alike Ar_a2.2.1) Ar_a2.2.2 hin17 hat17 (g := (mkF m 17 #[.val (.ref a1), .val (.ref a2), .val (.int p3), .val (.int (1 : Int32)), .unset] [(.int (0 : Int32)), (.ref a2)])) rfl rfl (hb hby d3_17) _ ?_
    show Steps p.tables e below (s₁.setTop (mkF m 18 #[.val (.ref a1), .val (.ref a2), .val (.int p3), .val (.int (1 : Int32)), .unset] [(.int w4)])) _
    refine XS.bipush X0.here hx rfl (hb hby d3_18) ?_
    show Steps p.tables e below (s₁.setTop (mkF m 20 #[.val (.ref a1), .val (.ref a2), .val (.int p3), .val (.int (1 : Int32)), .unset] [(.int (10 : Int32)), (.int w4)])) _
    refine XS.icmpYes X0.here hx rfl (pc0 := 20) (pc' := 27) rfl (hb hby d3_20) rfl (tlt hc20).2.2.1 (by decide) (by decide) ?_
    show Steps p.tables e below (s₁.setTop (mkF m 27 #[.val (.ref a1), .val (.ref a2), .val (.int p3), .val (.int (1 : Int32)), .unset] [])) _
    refine XS.iconst X0.here hx rfl (hb hby d3_27) ?_
    show Steps p.tables e below (s₁.setTop (mkF m 28 #[.val (.ref a1), .val (.ref a2), .val (.int p3), .val (.int (1 : Int32)), .unset] [(.int (0 : Int32))])) _
    refine XS.istore X0.here hx rfl (hb hby d3_28) rfl (l' := #[.val (.ref a1), .val (.ref a2), .val (.int p3), .val (.int (1 : Int32)), .val (.int (0 : Int32))]) rfl ?_
    show Steps p.tables e below (s₁.setTop (mkF m 30 #[.val (.ref a1), .val (.ref a2), .val (.int p3), .val (.int (1 : Int32)), .val (.int (0 : Int32))] [])) _
    refine XS.aloadN X0.here hx rfl (hb hby d3_30) rfl rfl ?_
    show Steps p.tables e below (s₁.setTop (mkF m 31 #[.val (.ref a1), .val (.ref a2), .val (.int p3), .val (.int (1 : Int32)), .val (.int (0 : Int32))] [(.ref a1)])) _
    refine st5.trans ?_
    show Steps p.tables e below (T5.setTop (mkF m 34 #[.val (.ref a1), .val (.ref a2), .val (.int p3), .val (.int (1 : Int32)), .val (.int (0 : Int32))] [(.int (1 : Int32))])) _
    refine XS.tswIn X5.here hx rfl (pc0 := 34) (pc' := 86) rfl (hb hby d3_34) rfl (by decide) rfl (by decide) (by decide) ?_
    show Steps p.tables e below (T5.setTop (mkF m 86 #[.val (.ref a1), .val (.ref a2), .val (.int p3), .val (.int (1 : Int32)), .val (.int (0 : Int32))] [])) _
    refine XS.aloadN X5.here hx rfl (hb hby d3_86) rfl rfl ?_
    show Steps p.tables e below (T5.setTop (mkF m 87 #[.val (.ref a1), .val (.ref a2), .val (.int p3), .val (.int (1 : Int32)), .val (.int (0 : Int32))] [(.ref a2)])) _
    refine XS.bipush X5.here hx rfl (hb hby d3_87) ?_
    show Steps p.tables e below (T5.setTop (mkF m 89 #[.val (.ref a1), .val (.ref a2), .val (.int p3), .val (.int (1 : Int32)), .val (.int (0 : Int32))] [(.int (10 : Int32)), (.ref a2)])) _
    refine st6 _ ?_
    show Steps p.tables e below (T6.setTop (mkF m 92 #[.val (.ref a1), .val (.ref a2), .val (.int p3), .val (.int (1 : Int32)), .val (.int (0 : Int32))] [(.int gF)])) _
    refine XS.i2dS X6.here hx rfl (hb hby d3_92) rfl rfl ?_
    show Steps p.tables e below (T6.setTop (mkF m 93 #[.val (.ref a1), .val (.ref a2), .val (.int p3), .val (.int (1 : Int32)), .val (.int (0 : Int32))] [(.double (FP.i2d gF))])) _
    refine X6.ldc2DoubleC hx hown (mvT hZ (hw _ (List.mem_of_getElem? (i := 41) rfl))) (g := (mkF m 93 #[.val (.ref a1), .val (.ref a2), .val (.int p3), .val (.int (1 : Int32)), .val (.int (0 : Int32))] [(.double (FP.i2d gF))])) rfl (hb hby d3_93) _ ?_
    show Steps p.tables e below (T6.setTop (mkF m 96 #[.val (.ref a1), .val (.ref a2), .val (.int p3), .val (.int (1 : Int32)), .val (.int (0 : Int32))] [(.double (4621819117588971520 : UInt64)), (.double (FP.i2d gF))])) _
    refine XS.ddivS X6.here hx rfl (hb hby d3_96) rfl hn96 hv96 ?_
    show Steps p.tables e below (T6.setTop (mkF m 97 #[.val (.ref a1), .val (.ref a2), .val (.int p3), .val (.int (1 : Int32)), .val (.int (0 : Int32))] [(.double r96)])) _
    refine XS.goto X6.here hx rfl (pc0 := 97) (pc' := 145) rfl (hb hby d3_97) (by decide) (by decide) ?_
    show Steps p.tables e below (T6.setTop (mkF m 145 #[.val (.ref a1), .val (.ref a2), .val (.int p3), .val (.int (1 : Int32)), .val (.int (0 : Int32))] [(.double r96)])) _
    exact retOut X6 hx Bd.returns rfl (Or.inr (Or.inr (Or.inl ⟨rfl, rfl, _, rfl⟩))) (hb hby d3_145) hr
  · show QP (some (.double r96)) h0 n0 _ T6.heap _
    exact ⟨rfl, N6, eh6.trans eh5⟩
set_option maxRecDepth 65536 in
set_option maxHeartbeats 40000000 in
theorem rm3_1ff (l : Launch) (Z : State) (a0 : Array Value) (hw : ∀ d ∈ tables_1, d.before a0 Z = true) (ws : List Jvm.Cond) (a1 : Addr) (a2 : Addr) (p3 : Int32) (cl_a2 : Cell) (z_a2 : Int32) (w4 : Int32) (r96 : UInt64) (gF : Int32) (h0 : Heap) (n0 : Nat) (Z0 : n0 ≤ h0.size) (Ar_a2 : Arr Z h0 a2 cl_a2 .int) (S_a2 : cl_a2.slots.size = z_a2.toNatClampNeg) (N_a2 : ¬ z_a2 < 0) (hin17 : ¬ ((0 : Int32) < 0 ∨ cl_a2.slots.size ≤ ((0 : Int32)).toNatClampNeg)) (hat17 : cl_a2.slots[((0 : Int32)).toNatClampNeg]? = some (.int w4)) (E_a1 : Exa Z h0 a1 "com/example/pesquisa/pesquisa/Measure") (hc2 : (0 : Int32) < z_a2) (hc20 : ¬ ((10 : Int32) < w4)) (hv96 : (FP.ddiv (FP.i2d gF) (4621819117588971520 : UInt64)) = r96) (hn96 : Jvm.Free.Fl.NoNaN64 (FP.ddiv (FP.i2d gF) (4621819117588971520 : UInt64))) (F_ord : Fld Z h0 a1 "java/lang/Enum" "ordinal" "I" (.int (1 : Int32))) (hC : MetFree l (⟨"com/example/pesquisa/pesquisa/Measure", "foundBy", "([II)I"⟩ : MethodName) (head1 (Jvm.Cond.code (⟨"com/example/pesquisa/pesquisa/Measure", "foundBy", "([II)I"⟩ : MethodName) prog_6_method_7_code 3 (some .int) :: []) ({ frames := 0, cells := 0, slots := 0, locals := 0 } : Room)) (fun a U => a = #[(.ref a2), (.int (10 : Int32))] ∧ Z.Warmed39 U.vm ∧ U.heap = h0) (fun _ _ _ _ _ => True) (fun _ U o U' => ∃ v L, o = .returned v ∧ QP (some (.int gF)) h0 n0 v U'.heap L ∧ FrameEnd U o U' L ({ frames := 0, cells := 0, slots := 0, locals := 0 } : Room).cells ({ frames := 0, cells := 0, slots := 0, locals := 0 } : Room).slots)) :
    MetFree l (⟨"com/example/pesquisa/pesquisa/Measure", "score", "([II)D"⟩ : MethodName) (head1 (Jvm.Cond.code (⟨"com/example/pesquisa/pesquisa/Measure", "score", "([II)D"⟩ : MethodName) prog_6_method_5_code 5 (some .double) :: ws) ({ frames := 1, cells := 0, slots := 0, locals := 40 } : Room)) (fun a U => a = #[(.ref a1), (.ref a2), (.int p3)] ∧ Z.Warmed39 U.vm ∧ U.heap = h0) (fun _ _ _ _ _ => True) (fun _ U o U' => ∃ v L, o = .returned v ∧ QP (some (.double r96)) h0 n0 v U'.heap L ∧ FrameEnd U o U' L ({ frames := 1, cells := 0, slots := 0, locals := 40 } : Room).cells ({ frames := 1, cells := 0, slots := 0, locals := 40 } : Room).slots) := by
  refine MetFree.of_bodySF (plainFor_of_name pn_3) hisR ?_
  intro p e s m args below meth c s₁ Bd hml0 hP hK
  obtain ⟨rfl, hZ, hh⟩ := hP
  have hx := Bd.exec
  have hby := Bd.bytes
  have hml : c.maxLocals = 5 := hml0
  have hown : s.vm.findClass "com/example/pesquisa/pesquisa/Measure" = some m.cls := findClass_of_methodNamed Bd.named
  have hnm := (name_of_methodNamed Bd.named Bd.method).1
  have X0 : Stand p l e ({ frames := 1, cells := 0, slots := 0, locals := 40 } : Room) s m #[(.ref a1), (.ref a2), (.int p3)] below meth c s₁ [] 0 0 := Stand.of_body Bd
  have e0 : s₁.heap = h0 := by rw [← hh, Bd.state]; rfl
  have N0 := Fr.nil n0
  have pre0 : ∀ t, Steps p.tables e below (s₁.setTop (mkF m 0 #[.val (.ref a1), .val (.ref a2), .val (.int p3), .unset, .unset] [])) t → Steps p.tables e below (s₁.setTop (entryFrame m #[(.ref a1), (.ref a2), (.int p3)] 5)) t := fun t k => castTop (ef_3 m a1 a2 p3) k
  obtain ⟨cq5, kq5, q5a, q5b, q5c⟩ := isOf hZ e0 E_a1
  obtain ⟨_, _, ⟨T5, L5, k5, n5⟩, -, X5, ⟨Lc5, hQ5, l5, y5, z5⟩, st5⟩ := X0.virtualBackUp hx (x := (⟨"com/example/pesquisa/pesquisa/Measure", "ordinal", "()I"⟩ : MethodName)) (y := (⟨"java/lang/Enum", "ordinal", "()I"⟩ : MethodName)) hown (mvT hZ (hw _ (List.mem_of_getElem? (i := 18) rfl))) (mvT hZ (hw _ (List.mem_of_getElem? (i := 19) rfl))) (mvT hZ (hw _ (List.mem_of_getElem? (i := 20) rfl))) (by decide) (mvT hZ (hw _ (List.mem_of_getElem? (i := 22) rfl))) (mvT hZ (hw _ (List.mem_of_getElem? (i := 21) rfl))) (backOf (W := 0) (rm4 l Z a0 hw [] a1 (1 : Int32) h0 n0 Z0 F_ord) hZ (hw _ (List.mem_of_getElem? (i := 24) rfl)) (hw _ (List.mem_of_getElem? (i := 23) rfl)) (by decide) (by decide)) q5a q5c (g := (mkF m 31 #[.val (.ref a1), .val (.ref a2), .val (.int p3), .val (.int (1 : Int32)), .val (.int (1 : Int32))] [(.ref a1)])) rfl (by rw [hml]; rfl) (Steps.refl _) (argsL := []) (rest := []) (lenOf pd_3_3 rfl) rfl (by show 2 * 0 + _ ≤ _; exact Nat.le_of_eq rfl) (hb hby d3_31) (fun _ _ => ⟨rfl, e0, (by decide : 0 + 0 ≤ _), (by decide : 0 + 0 ≤ _)⟩)
  dsimp only [Pt.U, Pt.locs, Pt.cells, Pt.slots] at X5 l5 y5 z5 st5 hQ5
  subst l5 y5 z5
  obtain ⟨rfl, N5q, eh5⟩ := hQ5
  have N5 := Fr.app N0 N5q
  have hC5 := hC
  rw [← eh5] at hC5
  obtain ⟨_, _, ⟨T6, L6, k6, n6⟩, -, X6, ⟨Lc6, hQ6, l6, y6, z6⟩, st6⟩ := Jvm.LawKit.callS X5 hx (y := (⟨"com/example/pesquisa/pesquisa/Measure", "foundBy", "([II)I"⟩ : MethodName)) hown (mvT hZ (hw _ (List.mem_of_getElem? (i := 38) rfl))) (mvT hZ (hw _ (List.mem_of_getElem? (i := 39) rfl))) (mvT hZ (hw _ (List.mem_of_getElem? (i := 11) rfl))) (mvT hZ (hw _ (List.mem_of_getElem? (i := 40) rfl))) (by decide) (backOf (W := 0) hC5 hZ (hw _ (List.mem_of_getElem? (i := 40) rfl)) (hw _ (List.mem_of_getElem? (i := 11) rfl)) (by decide) (by decide)) (g := (mkF m 89 #[.val (.ref a1), .val (.ref a2), .val (.int p3), .val (.int (1 : Int32)), .val (.int (1 : Int32))] [(.int (10 : Int32)), (.ref a2)])) rfl (by rw [hml]; rfl) (argsL := [(.ref a2), (.int (10 : Int32))]) (rest := []) (lenOf pd_3_4 rfl) rfl (by show 2 * 0 + _ ≤ _; exact Nat.le_of_eq rfl) (hb hby d3_89) (fun _ _ => ⟨rfl, rfl, (by decide : 0 + 0 ≤ _), (by decide : 0 + 0 ≤ _)⟩)
  dsimp only [Pt.U, Pt.locs, Pt.cells, Pt.slots] at X6 l6 y6 z6 st6 hQ6
  subst l6 y6 z6
  obtain ⟨rfl, N6q, eh6⟩ := hQ6
  have N6 := Fr.app N5 N6q
  obtain ⟨fs, hr, hrun, hended, hW, hsame⟩ := X6.leave (v := some (.double r96)) (fun h => by rw [Bd.returns] at h; cases h)
  refine ⟨_, _, pre0 _ ?_, hrun, hended, _, _, rfl, ?_, ⟨_, rfl⟩, hW, hsame.mono (by decide) (by decide)⟩
  · show Steps p.tables e below (s₁.setTop (mkF m 0 #[.val (.ref a1), .val (.ref a2), .val (.int p3), .unset, .unset] [])) _
    refine XS.aloadN X0.here hx rfl (hb hby d3_0) rfl rfl ?_
    show Steps p.tables e below (s₁.setTop (mkF m 1 #[.val (.ref a1), .val (.ref a2), .val (.int p3), .unset, .unset] [(.ref a2)])) _
    refine X0.arraylength hx (by rw [e0]; exact Ar_a2.1) (State.isArrayOf_alike hZ.alike Ar_a2.2.1) (g := (mkF m 1 #[.val (.ref a1), .val (.ref a2), .val (.int p3), .unset, .unset] [(.ref a2)])) rfl rfl (hb hby d3_1) _ ?_
    rw [len_of S_a2 N_a2]
    show Steps p.tables e below (s₁.setTop (mkF m 2 #[.val (.ref a1), .val (.ref a2), .val (.int p3), .unset, .unset] [(.int z_a2)])) _
    refine XS.ifNo X0.here hx rfl (hb hby d3_2) rfl ((if0 _ _).trans (tlt hc2).2.2.2) ?_
    show Steps p.tables e below (s₁.setTop (mkF m 5 #[.val (.ref a1), .val (.ref a2), .val (.int p3), .unset, .unset] [])) _
    refine XS.iconst X0.here hx rfl (hb hby d3_5) ?_
    show Steps p.tables e below (s₁.setTop (mkF m 6 #[.val (.ref a1), .val (.ref a2), .val (.int p3), .unset, .unset] [(.int (1 : Int32))])) _
    refine XS.goto X0.here hx rfl (pc0 := 6) (pc' := 10) rfl (hb hby d3_6) (by decide) (by decide) ?_
    show Steps p.tables e below (s₁.setTop (mkF m 10 #[.val (.ref a1), .val (.ref a2), .val (.int p3), .unset, .unset] [(.int (1 : Int32))])) _
    refine XS.istoreN X0.here hx rfl (hb hby d3_10) rfl (l' := #[.val (.ref a1), .val (.ref a2), .val (.int p3), .val (.int (1 : Int32)), .unset]) rfl ?_
    show Steps p.tables e below (s₁.setTop (mkF m 11 #[.val (.ref a1), .val (.ref a2), .val (.int p3), .val (.int (1 : Int32)), .unset] [])) _
    refine XS.iloadN X0.here hx rfl (hb hby d3_11) rfl ?_
    show Steps p.tables e below (s₁.setTop (mkF m 12 #[.val (.ref a1), .val (.ref a2), .val (.int p3), .val (.int (1 : Int32)), .unset] [(.int (1 : Int32))])) _
    refine XS.ifNo X0.here hx rfl (hb hby d3_12) rfl ((if0 _ _).trans (feq (by decide : ¬ ((1 : Int32) = (0 : Int32)))).1) ?_
    show Steps p.tables e below (s₁.setTop (mkF m 15 #[.val (.ref a1), .val (.ref a2), .val (.int p3), .val (.int (1 : Int32)), .unset] [])) _
    refine XS.aloadN X0.here hx rfl (hb hby d3_15) rfl rfl ?_
    show Steps p.tables e below (s₁.setTop (mkF m 16 #[.val (.ref a1), .val (.ref a2), .val (.int p3), .val (.int (1 : Int32)), .unset] [(.ref a2)])) _
    refine XS.iconst X0.here hx rfl (hb hby d3_16) ?_
    show Steps p.tables e below (s₁.setTop (mkF m 17 #[.val (.ref a1), .val (.ref a2), .val (.int p3), .val (.int (1 : Int32)), .unset] [(.int (0 : Int32)), (.ref a2)])) _
    refine X0.iaload hx (j := (0 : Int32)) (v := (.int w4)) (by rw [e0]; exact Ar_a2.1) (State.isArrayOf_alike hZ.alike Ar_a2.2.1) Ar_a2.2.2 hin17 hat17 (g := (mkF m 17 #[.val (.ref a1), .val (.ref a2), .val (.int p3), .val (.int (1 : Int32)), .unset] [(.int (0 : Int32)), (.ref a2)])) rfl rfl (hb hby d3_17) _ ?_
    show Steps p.tables e below (s₁.setTop (mkF m 18 #[.val (.ref a1), .val (.ref a2), .val (.int p3), .val (.int (1 : Int32)), .unset] [(.int w4)])) _
    refine XS.bipush X0.here hx rfl (hb hby d3_18) ?_
    show Steps p.tables e below (s₁.setTop (mkF m 20 #[.val (.ref a1), .val (.ref a2), .val (.int p3), .val (.int (1 : Int32)), .unset] [(.int (10 : Int32)), (.int w4)])) _
    refine XS.icmpNo X0.here hx rfl (hb hby d3_20) rfl (flt hc20).2.2.1 ?_
    show Steps p.tables e below (s₁.setTop (mkF m 23 #[.val (.ref a1), .val (.ref a2), .val (.int p3), .val (.int (1 : Int32)), .unset] [])) _
    refine XS.iconst X0.here hx rfl (hb hby d3_23) ?_
    show Steps p.tables e below (s₁.setTop (mkF m 24 #[.val (.ref a1), .val (.ref a2), .val (.int p3), .val (.int (1 : Int32)), .unset] [(.int (1 : Int32))])) _
    refine XS.goto X0.here hx rfl (pc0 := 24) (pc' := 28) rfl (hb hby d3_24) (by decide) (by decide) ?_
    show Steps p.tables e below (s₁.setTop (mkF m 28 #[.val (.ref a1), .val (.ref a2), .val (.int p3), .val (.int (1 : Int32)), .unset] [(.int (1 : Int32))])) _
    refine XS.istore X0.here hx rfl (hb hby d3_28) rfl (l' := #[.val (.ref a1), .val (.ref a2), .val (.int p3), .val (.int (1 : Int32)), .val (.int (1 : Int32))]) rfl ?_
    show Steps p.tables e below (s₁.setTop (mkF m 30 #[.val (.ref a1), .val (.ref a2), .val (.int p3), .val (.int (1 : Int32)), .val (.int (1 : Int32))] [])) _
    refine XS.aloadN X0.here hx rfl (hb hby d3_30) rfl rfl ?_
    show Steps p.tables e below (s₁.setTop (mkF m 31 #[.val (.ref a1), .val (.ref a2), .val (.int p3), .val (.int (1 : Int32)), .val (.int (1 : Int32))] [(.ref a1)])) _
    refine st5.trans ?_
    show Steps p.tables e below (T5.setTop (mkF m 34 #[.val (.ref a1), .val (.ref a2), .val (.int p3), .val (.int (1 : Int32)), .val (.int (1 : Int32))] [(.int (1 : Int32))])) _
    refine XS.tswIn X5.here hx rfl (pc0 := 34) (pc' := 86) rfl (hb hby d3_34) rfl (by decide) rfl (by decide) (by decide) ?_
    show Steps p.tables e below (T5.setTop (mkF m 86 #[.val (.ref a1), .val (.ref a2), .val (.int p3), .val (.int (1 : Int32)), .val (.int (1 : Int32))] [])) _
    refine XS.aloadN X5.here hx rfl (hb hby d3_86) rfl rfl ?_
    show Steps p.tables e below (T5.setTop (mkF m 87 #[.val (.ref a1), .val (.ref a2), .val (.int p3), .val (.int (1 : Int32)), .val (.int (1 : Int32))] [(.ref a2)])) _
    refine XS.bipush X5.here hx rfl (hb hby d3_87) ?_
    show Steps p.tables e below (T5.setTop (mkF m 89 #[.val (.ref a1), .val (.ref a2), .val (.int p3), .val (.int (1 : Int32)), .val (.int (1 : Int32))] [(.int (10 : Int32)), (.ref a2)])) _
    refine st6 _ ?_
    show Steps p.tables e below (T6.setTop (mkF m 92 #[.val (.ref a1), .val (.ref a2), .val (.int p3), .val (.int (1 : Int32)), .val (.int (1 : Int32))] [(.int gF)])) _
    refine XS.i2dS X6.here hx rfl (hb hby d3_92) rfl rfl ?_
    show Steps p.tables e below (T6.setTop (mkF m 93 #[.val (.ref a1), .val (.ref a2), .val (.int p3), .val (.int (1 : Int32)), .val (.int (1 : Int32))] [(.double (FP.i2d gF))])) _
    refine X6.ldc2DoubleC hx hown (mvT hZ (hw _ (List.mem_of_getElem? (i := 41) rfl))) (g := (mkF m 93 #[.val (.ref a1), .val (.ref a2), .val (.int p3), .val (.int (1 : Int32)), .val (.int (1 : Int32))] [(.double (FP.i2d gF))])) rfl (hb hby d3_93) _ ?_
    show Steps p.tables e below (T6.setTop (mkF m 96 #[.val (.ref a1), .val (.ref a2), .val (.int p3), .val (.int (1 : Int32)), .val (.int (1 : Int32))] [(.double (4621819117588971520 : UInt64)), (.double (FP.i2d gF))])) _
    refine XS.ddivS X6.here hx rfl (hb hby d3_96) rfl hn96 hv96 ?_
    show Steps p.tables e below (T6.setTop (mkF m 97 #[.val (.ref a1), .val (.ref a2), .val (.int p3), .val (.int (1 : Int32)), .val (.int (1 : Int32))] [(.double r96)])) _
    refine XS.goto X6.here hx rfl (pc0 := 97) (pc' := 145) rfl (hb hby d3_97) (by decide) (by decide) ?_
    show Steps p.tables e below (T6.setTop (mkF m 145 #[.val (.ref a1), .val (.ref a2), .val (.int p3), .val (.int (1 : Int32)), .val (.int (1 : Int32))] [(.double r96)])) _
    exact retOut X6 hx Bd.returns rfl (Or.inr (Or.inr (Or.inl ⟨rfl, rfl, _, rfl⟩))) (hb hby d3_145) hr
  · show QP (some (.double r96)) h0 n0 _ T6.heap _
    exact ⟨rfl, N6, eh6.trans eh5⟩
theorem d3_100 : decode prog_6_method_5_code 100 = .ok (.iload_n 3, 1) := by decide +kernel
theorem d3_101 : decode prog_6_method_5_code 101 = .ok (.ifCond .eq 12, 3) := by decide +kernel
theorem d3_113 : decode prog_6_method_5_code 113 = .ok (.dconst 0, 1) := by decide +kernel
theorem d3_114 : decode prog_6_method_5_code 114 = .ok (.goto 31, 3) := by decide +kernel
set_option maxRecDepth 65536 in
set_option maxHeartbeats 40000000 in
theorem rm3_2t (l : Launch) (Z : State) (a0 : Array Value) (hw : ∀ d ∈ tables_1, d.before a0 Z = true) (ws : List Jvm.Cond) (a1 : Addr) (a2 : Addr) (p3 : Int32) (cl_a2 : Cell) (z_a2 : Int32) (h0 : Heap) (n0 : Nat) (Z0 : n0 ≤ h0.size) (Ar_a2 : Arr Z h0 a2 cl_a2 .int) (S_a2 : cl_a2.slots.size = z_a2.toNatClampNeg) (N_a2 : ¬ z_a2 < 0) (E_a1 : Exa Z h0 a1 "com/example/pesquisa/pesquisa/Measure") (hc2 : ¬ ((0 : Int32) < z_a2)) (F_ord : Fld Z h0 a1 "java/lang/Enum" "ordinal" "I" (.int (2 : Int32))) :
    MetFree l (⟨"com/example/pesquisa/pesquisa/Measure", "score", "([II)D"⟩ : MethodName) (head1 (Jvm.Cond.code (⟨"com/example/pesquisa/pesquisa/Measure", "score", "([II)D"⟩ : MethodName) prog_6_method_5_code 5 (some .double) :: ws) ({ frames := 1, cells := 0, slots := 0, locals := 40 } : Room)) (fun a U => a = #[(.ref a1), (.ref a2), (.int p3)] ∧ Z.Warmed39 U.vm ∧ U.heap = h0) (fun _ _ _ _ _ => True) (fun _ U o U' => ∃ v L, o = .returned v ∧ QP (some (.double FP.dconst0)) h0 n0 v U'.heap L ∧ FrameEnd U o U' L ({ frames := 1, cells := 0, slots := 0, locals := 40 } : Room).cells ({ frames := 1, cells := 0, slots := 0, locals := 40 } : Room).slots) := by
  refine MetFree.of_bodySF (plainFor_of_name pn_3) hisR ?_
  intro p e s m args below meth c s₁ Bd hml0 hP hK
  obtain ⟨rfl, hZ, hh⟩ := hP
  have hx := Bd.exec
  have hby := Bd.bytes
  have hml : c.maxLocals = 5 := hml0
  have hown : s.vm.findClass "com/example/pesquisa/pesquisa/Measure" = some m.cls := findClass_of_methodNamed Bd.named
  have hnm := (name_of_methodNamed Bd.named Bd.method).1
  have X0 : Stand p l e ({ frames := 1, cells := 0, slots := 0, locals := 40 } : Room) s m #[(.ref a1), (.ref a2), (.int p3)] below meth c s₁ [] 0 0 := Stand.of_body Bd
  have e0 : s₁.heap = h0 := by rw [← hh, Bd.state]; rfl
  have N0 := Fr.nil n0
  have pre0 : ∀ t, Steps p.tables e below (s₁.setTop (mkF m 0 #[.val (.ref a1), .val (.ref a2), .val (.int p3), .unset, .unset] [])) t → Steps p.tables e below (s₁.setTop (entryFrame m #[(.ref a1), (.ref a2), (.int p3)] 5)) t := fun t k => castTop (ef_3 m a1 a2 p3) k
  obtain ⟨cq4, kq4, q4a, q4b, q4c⟩ := isOf hZ e0 E_a1
  obtain ⟨_, _, ⟨T4, L4, k4, n4⟩, -, X4, ⟨Lc4, hQ4, l4, y4, z4⟩, st4⟩ := X0.virtualBackUp hx (x := (⟨"com/example/pesquisa/pesquisa/Measure", "ordinal", "()I"⟩ : MethodName)) (y := (⟨"java/lang/Enum", "ordinal", "()I"⟩ : MethodName)) hown (mvT hZ (hw _ (List.mem_of_getElem? (i := 18) rfl))) (mvT hZ (hw _ (List.mem_of_getElem? (i := 19) rfl))) (mvT hZ (hw _ (List.mem_of_getElem? (i := 20) rfl))) (by decide) (mvT hZ (hw _ (List.mem_of_getElem? (i := 22) rfl))) (mvT hZ (hw _ (List.mem_of_getElem? (i := 21) rfl))) (backOf (W := 0) (rm4 l Z a0 hw [] a1 (2 : Int32) h0 n0 Z0 F_ord) hZ (hw _ (List.mem_of_getElem? (i := 24) rfl)) (hw _ (List.mem_of_getElem? (i := 23) rfl)) (by decide) (by decide)) q4a q4c (g := (mkF m 31 #[.val (.ref a1), .val (.ref a2), .val (.int p3), .val (.int (0 : Int32)), .val (.int (0 : Int32))] [(.ref a1)])) rfl (by rw [hml]; rfl) (Steps.refl _) (argsL := []) (rest := []) (lenOf pd_3_3 rfl) rfl (by show 2 * 0 + _ ≤ _; exact Nat.le_of_eq rfl) (hb hby d3_31) (fun _ _ => ⟨rfl, e0, (by decide : 0 + 0 ≤ _), (by decide : 0 + 0 ≤ _)⟩)
  dsimp only [Pt.U, Pt.locs, Pt.cells, Pt.slots] at X4 l4 y4 z4 st4 hQ4
  subst l4 y4 z4
  obtain ⟨rfl, N4q, eh4⟩ := hQ4
  have N4 := Fr.app N0 N4q
  obtain ⟨fs, hr, hrun, hended, hW, hsame⟩ := X4.leave (v := some (.double FP.dconst0)) (fun h => by rw [Bd.returns] at h; cases h)
  refine ⟨_, _, pre0 _ ?_, hrun, hended, _, _, rfl, ?_, ⟨_, rfl⟩, hW, hsame.mono (by decide) (by decide)⟩
  · show Steps p.tables e below (s₁.setTop (mkF m 0 #[.val (.ref a1), .val (.ref a2), .val (.int p3), .unset, .unset] [])) _
    refine XS.aloadN X0.here hx rfl (hb hby d3_0) rfl rfl ?_
    show Steps p.tables e below (s₁.setTop (mkF m 1 #[.val (.ref a1), .val (.ref a2), .val (.int p3), .unset, .unset] [(.ref a2)])) _
    refine X0.arraylength hx (by rw [e0]; exact Ar_a2.1) (State.isArrayOf_alike hZ.alike Ar_a2.2.1) (g := (mkF m 1 #[.val (.ref a1), .val (.ref a2), .val (.int p3), .unset, .unset] [(.ref a2)])) rfl rfl (hb hby d3_1) _ ?_
    rw [len_of S_a2 N_a2]
    show Steps p.tables e below (s₁.setTop (mkF m 2 #[.val (.ref a1), .val (.ref a2), .val (.int p3), .unset, .unset] [(.int z_a2)])) _
    refine XS.ifYes X0.here hx rfl (pc0 := 2) (pc' := 9) rfl (hb hby d3_2) rfl ((if0 _ _).trans (flt hc2).2.2.2) (by decide) (by decide) ?_
    show Steps p.tables e below (s₁.setTop (mkF m 9 #[.val (.ref a1), .val (.ref a2), .val (.int p3), .unset, .unset] [])) _
    refine XS.iconst X0.here hx rfl (hb hby d3_9) ?_
    show Steps p.tables e below (s₁.setTop (mkF m 10 #[.val (.ref a1), .val (.ref a2), .val (.int p3), .unset, .unset] [(.int (0 : Int32))])) _
    refine XS.istoreN X0.here hx rfl (hb hby d3_10) rfl (l' := #[.val (.ref a1), .val (.ref a2), .val (.int p3), .val (.int (0 : Int32)), .unset]) rfl ?_
    show Steps p.tables e below (s₁.setTop (mkF m 11 #[.val (.ref a1), .val (.ref a2), .val (.int p3), .val (.int (0 : Int32)), .unset] [])) _
    refine XS.iloadN X0.here hx rfl (hb hby d3_11) rfl ?_
    show Steps p.tables e below (s₁.setTop (mkF m 12 #[.val (.ref a1), .val (.ref a2), .val (.int p3), .val (.int (0 : Int32)), .unset] [(.int (0 : Int32))])) _
    refine XS.ifYes X0.here hx rfl (pc0 := 12) (pc' := 27) rfl (hb hby d3_12) rfl ((if0 _ _).trans (teq (by decide : (0 : Int32) = (0 : Int32))).1) (by decide) (by decide) ?_
    show Steps p.tables e below (s₁.setTop (mkF m 27 #[.val (.ref a1), .val (.ref a2), .val (.int p3), .val (.int (0 : Int32)), .unset] [])) _
    refine XS.iconst X0.here hx rfl (hb hby d3_27) ?_
    show Steps p.tables e below (s₁.setTop (mkF m 28 #[.val (.ref a1), .val (.ref a2), .val (.int p3), .val (.int (0 : Int32)), .unset] [(.int (0 : Int32))])) _
    refine XS.istore X0.here hx rfl (hb hby d3_28) rfl (l' := #[.val (.ref a1), .val (.ref a2), .val (.int p3), .val (.int (0 : Int32)), .val (.int (0 : Int32))]) rfl ?_
    show Steps p.tables e below (s₁.setTop (mkF m 30 #[.val (.ref a1), .val (.ref a2), .val (.int p3), .val (.int (0 : Int32)), .val (.int (0 : Int32))] [])) _
    refine XS.aloadN X0.here hx rfl (hb hby d3_30) rfl rfl ?_
    show Steps p.tables e below (s₁.setTop (mkF m 31 #[.val (.ref a1), .val (.ref a2), .val (.int p3), .val (.int (0 : Int32)), .val (.int (0 : Int32))] [(.ref a1)])) _
    refine st4.trans ?_
    show Steps p.tables e below (T4.setTop (mkF m 34 #[.val (.ref a1), .val (.ref a2), .val (.int p3), .val (.int (0 : Int32)), .val (.int (0 : Int32))] [(.int (2 : Int32))])) _
    refine XS.tswIn X4.here hx rfl (pc0 := 34) (pc' := 100) rfl (hb hby d3_34) rfl (by decide) rfl (by decide) (by decide) ?_
    show Steps p.tables e below (T4.setTop (mkF m 100 #[.val (.ref a1), .val (.ref a2), .val (.int p3), .val (.int (0 : Int32)), .val (.int (0 : Int32))] [])) _
    refine XS.iloadN X4.here hx rfl (hb hby d3_100) rfl ?_
    show Steps p.tables e below (T4.setTop (mkF m 101 #[.val (.ref a1), .val (.ref a2), .val (.int p3), .val (.int (0 : Int32)), .val (.int (0 : Int32))] [(.int (0 : Int32))])) _
    refine XS.ifYes X4.here hx rfl (pc0 := 101) (pc' := 113) rfl (hb hby d3_101) rfl ((if0 _ _).trans (teq (by decide : (0 : Int32) = (0 : Int32))).1) (by decide) (by decide) ?_
    show Steps p.tables e below (T4.setTop (mkF m 113 #[.val (.ref a1), .val (.ref a2), .val (.int p3), .val (.int (0 : Int32)), .val (.int (0 : Int32))] [])) _
    refine XS.dconst0 X4.here hx rfl (hb hby d3_113) rfl ?_
    show Steps p.tables e below (T4.setTop (mkF m 114 #[.val (.ref a1), .val (.ref a2), .val (.int p3), .val (.int (0 : Int32)), .val (.int (0 : Int32))] [(.double FP.dconst0)])) _
    refine XS.goto X4.here hx rfl (pc0 := 114) (pc' := 145) rfl (hb hby d3_114) (by decide) (by decide) ?_
    show Steps p.tables e below (T4.setTop (mkF m 145 #[.val (.ref a1), .val (.ref a2), .val (.int p3), .val (.int (0 : Int32)), .val (.int (0 : Int32))] [(.double FP.dconst0)])) _
    exact retOut X4 hx Bd.returns rfl (Or.inr (Or.inr (Or.inl ⟨rfl, rfl, _, rfl⟩))) (hb hby d3_145) hr
  · show QP (some (.double FP.dconst0)) h0 n0 _ T4.heap _
    exact ⟨rfl, N4, eh4⟩
theorem d3_104 : decode prog_6_method_5_code 104 = .ok (.dconst 1, 1) := by decide +kernel
theorem d3_105 : decode prog_6_method_5_code 105 = .ok (.aload_n 1, 1) := by decide +kernel
theorem d3_106 : decode prog_6_method_5_code 106 = .ok (.iconst 0, 1) := by decide +kernel
theorem d3_107 : decode prog_6_method_5_code 107 = .ok (.iaload, 1) := by decide +kernel
theorem d3_108 : decode prog_6_method_5_code 108 = .ok (.i2d, 1) := by decide +kernel
theorem d3_109 : decode prog_6_method_5_code 109 = .ok (.ddiv, 1) := by decide +kernel
theorem d3_110 : decode prog_6_method_5_code 110 = .ok (.goto 35, 3) := by decide +kernel
set_option maxRecDepth 65536 in
set_option maxHeartbeats 40000000 in
theorem rm3_2ft (l : Launch) (Z : State) (a0 : Array Value) (hw : ∀ d ∈ tables_1, d.before a0 Z = true) (ws : List Jvm.Cond) (a1 : Addr) (a2 : Addr) (p3 : Int32) (cl_a2 : Cell) (z_a2 : Int32) (w4 : Int32) (w6 : Int32) (r109 : UInt64) (h0 : Heap) (n0 : Nat) (Z0 : n0 ≤ h0.size) (Ar_a2 : Arr Z h0 a2 cl_a2 .int) (S_a2 : cl_a2.slots.size = z_a2.toNatClampNeg) (N_a2 : ¬ z_a2 < 0) (hin17 : ¬ ((0 : Int32) < 0 ∨ cl_a2.slots.size ≤ ((0 : Int32)).toNatClampNeg)) (hat17 : cl_a2.slots[((0 : Int32)).toNatClampNeg]? = some (.int w4)) (E_a1 : Exa Z h0 a1 "com/example/pesquisa/pesquisa/Measure") (hin107 : ¬ ((0 : Int32) < 0 ∨ cl_a2.slots.size ≤ ((0 : Int32)).toNatClampNeg)) (hat107 : cl_a2.slots[((0 : Int32)).toNatClampNeg]? = some (.int w6)) (hc2 : (0 : Int32) < z_a2) (hc20 : (10 : Int32) < w4) (hv109 : (FP.ddiv FP.dconst1 (FP.i2d w6)) = r109) (hn109 : Jvm.Free.Fl.NoNaN64 (FP.ddiv FP.dconst1 (FP.i2d w6))) (F_ord : Fld Z h0 a1 "java/lang/Enum" "ordinal" "I" (.int (2 : Int32))) :
    MetFree l (⟨"com/example/pesquisa/pesquisa/Measure", "score", "([II)D"⟩ : MethodName) (head1 (Jvm.Cond.code (⟨"com/example/pesquisa/pesquisa/Measure", "score", "([II)D"⟩ : MethodName) prog_6_method_5_code 5 (some .double) :: ws) ({ frames := 1, cells := 0, slots := 0, locals := 40 } : Room)) (fun a U => a = #[(.ref a1), (.ref a2), (.int p3)] ∧ Z.Warmed39 U.vm ∧ U.heap = h0) (fun _ _ _ _ _ => True) (fun _ U o U' => ∃ v L, o = .returned v ∧ QP (some (.double r109)) h0 n0 v U'.heap L ∧ FrameEnd U o U' L ({ frames := 1, cells := 0, slots := 0, locals := 40 } : Room).cells ({ frames := 1, cells := 0, slots := 0, locals := 40 } : Room).slots) := by
  refine MetFree.of_bodySF (plainFor_of_name pn_3) hisR ?_
  intro p e s m args below meth c s₁ Bd hml0 hP hK
  obtain ⟨rfl, hZ, hh⟩ := hP
  have hx := Bd.exec
  have hby := Bd.bytes
  have hml : c.maxLocals = 5 := hml0
  have hown : s.vm.findClass "com/example/pesquisa/pesquisa/Measure" = some m.cls := findClass_of_methodNamed Bd.named
  have hnm := (name_of_methodNamed Bd.named Bd.method).1
  have X0 : Stand p l e ({ frames := 1, cells := 0, slots := 0, locals := 40 } : Room) s m #[(.ref a1), (.ref a2), (.int p3)] below meth c s₁ [] 0 0 := Stand.of_body Bd
  have e0 : s₁.heap = h0 := by rw [← hh, Bd.state]; rfl
  have N0 := Fr.nil n0
  have pre0 : ∀ t, Steps p.tables e below (s₁.setTop (mkF m 0 #[.val (.ref a1), .val (.ref a2), .val (.int p3), .unset, .unset] [])) t → Steps p.tables e below (s₁.setTop (entryFrame m #[(.ref a1), (.ref a2), (.int p3)] 5)) t := fun t k => castTop (ef_3 m a1 a2 p3) k
  obtain ⟨cq5, kq5, q5a, q5b, q5c⟩ := isOf hZ e0 E_a1
  obtain ⟨_, _, ⟨T5, L5, k5, n5⟩, -, X5, ⟨Lc5, hQ5, l5, y5, z5⟩, st5⟩ := X0.virtualBackUp hx (x := (⟨"com/example/pesquisa/pesquisa/Measure", "ordinal", "()I"⟩ : MethodName)) (y := (⟨"java/lang/Enum", "ordinal", "()I"⟩ : MethodName)) hown (mvT hZ (hw _ (List.mem_of_getElem? (i := 18) rfl))) (mvT hZ (hw _ (List.mem_of_getElem? (i := 19) rfl))) (mvT hZ (hw _ (List.mem_of_getElem? (i := 20) rfl))) (by decide) (mvT hZ (hw _ (List.mem_of_getElem? (i := 22) rfl))) (mvT hZ (hw _ (List.mem_of_getElem? (i := 21) rfl))) (backOf (W := 0) (rm4 l Z a0 hw [] a1 (2 : Int32) h0 n0 Z0 F_ord) hZ (hw _ (List.mem_of_getElem? (i := 24) rfl)) (hw _ (List.mem_of_getElem? (i := 23) rfl)) (by decide) (by decide)) q5a q5c (g := (mkF m 31 #[.val (.ref a1), .val (.ref a2), .val (.int p3), .val (.int (1 : Int32)), .val (.int (0 : Int32))] [(.ref a1)])) rfl (by rw [hml]; rfl) (Steps.refl _) (argsL := []) (rest := []) (lenOf pd_3_3 rfl) rfl (by show 2 * 0 + _ ≤ _; exact Nat.le_of_eq rfl) (hb hby d3_31) (fun _ _ => ⟨rfl, e0, (by decide : 0 + 0 ≤ _), (by decide : 0 + 0 ≤ _)⟩)
  dsimp only [Pt.U, Pt.locs, Pt.cells, Pt.slots] at X5 l5 y5 z5 st5 hQ5
  subst l5 y5 z5
  obtain ⟨rfl, N5q, eh5⟩ := hQ5
  have N5 := Fr.app N0 N5q
  obtain ⟨fs, hr, hrun, hended, hW, hsame⟩ := X5.leave (v := some (.double r109)) (fun h => by rw [Bd.returns] at h; cases h)
  refine ⟨_, _, pre0 _ ?_, hrun, hended, _, _, rfl, ?_, ⟨_, rfl⟩, hW, hsame.mono (by decide) (by decide)⟩
  · show Steps p.tables e below (s₁.setTop (mkF m 0 #[.val (.ref a1), .val (.ref a2), .val (.int p3), .unset, .unset] [])) _
    refine XS.aloadN X0.here hx rfl (hb hby d3_0) rfl rfl ?_
    show Steps p.tables e below (s₁.setTop (mkF m 1 #[.val (.ref a1), .val (.ref a2), .val (.int p3), .unset, .unset] [(.ref a2)])) _
    refine X0.arraylength hx (by rw [e0]; exact Ar_a2.1) (State.isArrayOf_alike hZ.alike Ar_a2.2.1) (g := (mkF m 1 #[.val (.ref a1), .val (.ref a2), .val (.int p3), .unset, .unset] [(.ref a2)])) rfl rfl (hb hby d3_1) _ ?_
    rw [len_of S_a2 N_a2]
    show Steps p.tables e below (s₁.setTop (mkF m 2 #[.val (.ref a1), .val (.ref a2), .val (.int p3), .unset, .unset] [(.int z_a2)])) _
    refine XS.ifNo X0.here hx rfl (hb hby d3_2) rfl ((if0 _ _).trans (tlt hc2).2.2.2) ?_
    show Steps p.tables e below (s₁.setTop (mkF m 5 #[.val (.ref a1), .val (.ref a2), .val (.int p3), .unset, .unset] [])) _
    refine XS.iconst X0.here hx rfl (hb hby d3_5) ?_
    show Steps p.tables e below (s₁.setTop (mkF m 6 #[.val (.ref a1), .val (.ref a2), .val (.int p3), .unset, .unset] [(.int (1 : Int32))])) _
    refine XS.goto X0.here hx rfl (pc0 := 6) (pc' := 10) rfl (hb hby d3_6) (by decide) (by decide) ?_
    show Steps p.tables e below (s₁.setTop (mkF m 10 #[.val (.ref a1), .val (.ref a2), .val (.int p3), .unset, .unset] [(.int (1 : Int32))])) _
    refine XS.istoreN X0.here hx rfl (hb hby d3_10) rfl (l' := #[.val (.ref a1), .val (.ref a2), .val (.int p3), .val (.int (1 : Int32)), .unset]) rfl ?_
    show Steps p.tables e below (s₁.setTop (mkF m 11 #[.val (.ref a1), .val (.ref a2), .val (.int p3), .val (.int (1 : Int32)), .unset] [])) _
    refine XS.iloadN X0.here hx rfl (hb hby d3_11) rfl ?_
    show Steps p.tables e below (s₁.setTop (mkF m 12 #[.val (.ref a1), .val (.ref a2), .val (.int p3), .val (.int (1 : Int32)), .unset] [(.int (1 : Int32))])) _
    refine XS.ifNo X0.here hx rfl (hb hby d3_12) rfl ((if0 _ _).trans (feq (by decide : ¬ ((1 : Int32) = (0 : Int32)))).1) ?_
    show Steps p.tables e below (s₁.setTop (mkF m 15 #[.val (.ref a1), .val (.ref a2), .val (.int p3), .val (.int (1 : Int32)), .unset] [])) _
    refine XS.aloadN X0.here hx rfl (hb hby d3_15) rfl rfl ?_
    show Steps p.tables e below (s₁.setTop (mkF m 16 #[.val (.ref a1), .val (.ref a2), .val (.int p3), .val (.int (1 : Int32)), .unset] [(.ref a2)])) _
    refine XS.iconst X0.here hx rfl (hb hby d3_16) ?_
    show Steps p.tables e below (s₁.setTop (mkF m 17 #[.val (.ref a1), .val (.ref a2), .val (.int p3), .val (.int (1 : Int32)), .unset] [(.int (0 : Int32)), (.ref a2)])) _
    refine X0.iaload hx (j := (0 : Int32)) (v := (.int w4)) (by rw [e0]; exact Ar_a2.1) (State.isArrayOf_alike hZ.alike Ar_a2.2.1) Ar_a2.2.2 hin17 hat17 (g := (mkF m 17 #[.val (.ref a1), .val (.ref a2), .val (.int p3), .val (.int (1 : Int32)), .unset] [(.int (0 : Int32)), (.ref a2)])) rfl rfl (hb hby d3_17) _ ?_
    show Steps p.tables e below (s₁.setTop (mkF m 18 #[.val (.ref a1), .val (.ref a2), .val (.int p3), .val (.int (1 : Int32)), .unset] [(.int w4)])) _
    refine XS.bipush X0.here hx rfl (hb hby d3_18) ?_
    show Steps p.tables e below (s₁.setTop (mkF m 20 #[.val (.ref a1), .val (.ref a2), .val (.int p3), .val (.int (1 : Int32)), .unset] [(.int (10 : Int32)), (.int w4)])) _
    refine XS.icmpYes X0.here hx rfl (pc0 := 20) (pc' := 27) rfl (hb hby d3_20) rfl (tlt hc20).2.2.1 (by decide) (by decide) ?_
    show Steps p.tables e below (s₁.setTop (mkF m 27 #[.val (.ref a1), .val (.ref a2), .val (.int p3), .val (.int (1 : Int32)), .unset] [])) _
    refine XS.iconst X0.here hx rfl (hb hby d3_27) ?_
    show Steps p.tables e below (s₁.setTop (mkF m 28 #[.val (.ref a1), .val (.ref a2), .val (.int p3), .val (.int (1 : Int32)), .unset] [(.int (0 : Int32))])) _
    refine XS.istore X0.here hx rfl (hb hby d3_28) rfl (l' := #[.val (.ref a1), .val (.ref a2), .val (.int p3), .val (.int (1 : Int32)), .val (.int (0 : Int32))]) rfl ?_
    show Steps p.tables e below (s₁.setTop (mkF m 30 #[.val (.ref a1), .val (.ref a2), .val (.int p3), .val (.int (1 : Int32)), .val (.int (0 : Int32))] [])) _
    refine XS.aloadN X0.here hx rfl (hb hby d3_30) rfl rfl ?_
    show Steps p.tables e below (s₁.setTop (mkF m 31 #[.val (.ref a1), .val (.ref a2), .val (.int p3), .val (.int (1 : Int32)), .val (.int (0 : Int32))] [(.ref a1)])) _
    refine st5.trans ?_
    show Steps p.tables e below (T5.setTop (mkF m 34 #[.val (.ref a1), .val (.ref a2), .val (.int p3), .val (.int (1 : Int32)), .val (.int (0 : Int32))] [(.int (2 : Int32))])) _
    refine XS.tswIn X5.here hx rfl (pc0 := 34) (pc' := 100) rfl (hb hby d3_34) rfl (by decide) rfl (by decide) (by decide) ?_
    show Steps p.tables e below (T5.setTop (mkF m 100 #[.val (.ref a1), .val (.ref a2), .val (.int p3), .val (.int (1 : Int32)), .val (.int (0 : Int32))] [])) _
    refine XS.iloadN X5.here hx rfl (hb hby d3_100) rfl ?_
    show Steps p.tables e below (T5.setTop (mkF m 101 #[.val (.ref a1), .val (.ref a2), .val (.int p3), .val (.int (1 : Int32)), .val (.int (0 : Int32))] [(.int (1 : Int32))])) _
    refine XS.ifNo X5.here hx rfl (hb hby d3_101) rfl ((if0 _ _).trans (feq (by decide : ¬ ((1 : Int32) = (0 : Int32)))).1) ?_
    show Steps p.tables e below (T5.setTop (mkF m 104 #[.val (.ref a1), .val (.ref a2), .val (.int p3), .val (.int (1 : Int32)), .val (.int (0 : Int32))] [])) _
    refine XS.dconst1 X5.here hx rfl (hb hby d3_104) rfl ?_
    show Steps p.tables e below (T5.setTop (mkF m 105 #[.val (.ref a1), .val (.ref a2), .val (.int p3), .val (.int (1 : Int32)), .val (.int (0 : Int32))] [(.double FP.dconst1)])) _
    refine XS.aloadN X5.here hx rfl (hb hby d3_105) rfl rfl ?_
    show Steps p.tables e below (T5.setTop (mkF m 106 #[.val (.ref a1), .val (.ref a2), .val (.int p3), .val (.int (1 : Int32)), .val (.int (0 : Int32))] [(.ref a2), (.double FP.dconst1)])) _
    refine XS.iconst X5.here hx rfl (hb hby d3_106) ?_
    show Steps p.tables e below (T5.setTop (mkF m 107 #[.val (.ref a1), .val (.ref a2), .val (.int p3), .val (.int (1 : Int32)), .val (.int (0 : Int32))] [(.int (0 : Int32)), (.ref a2), (.double FP.dconst1)])) _
    refine X5.iaload hx (j := (0 : Int32)) (v := (.int w6)) (by rw [eh5]; exact Ar_a2.1) (State.isArrayOf_alike hZ.alike Ar_a2.2.1) Ar_a2.2.2 hin107 hat107 (g := (mkF m 107 #[.val (.ref a1), .val (.ref a2), .val (.int p3), .val (.int (1 : Int32)), .val (.int (0 : Int32))] [(.int (0 : Int32)), (.ref a2), (.double FP.dconst1)])) rfl rfl (hb hby d3_107) _ ?_
    show Steps p.tables e below (T5.setTop (mkF m 108 #[.val (.ref a1), .val (.ref a2), .val (.int p3), .val (.int (1 : Int32)), .val (.int (0 : Int32))] [(.int w6), (.double FP.dconst1)])) _
    refine XS.i2dS X5.here hx rfl (hb hby d3_108) rfl rfl ?_
    show Steps p.tables e below (T5.setTop (mkF m 109 #[.val (.ref a1), .val (.ref a2), .val (.int p3), .val (.int (1 : Int32)), .val (.int (0 : Int32))] [(.double (FP.i2d w6)), (.double FP.dconst1)])) _
    refine XS.ddivS X5.here hx rfl (hb hby d3_109) rfl hn109 hv109 ?_
    show Steps p.tables e below (T5.setTop (mkF m 110 #[.val (.ref a1), .val (.ref a2), .val (.int p3), .val (.int (1 : Int32)), .val (.int (0 : Int32))] [(.double r109)])) _
    refine XS.goto X5.here hx rfl (pc0 := 110) (pc' := 145) rfl (hb hby d3_110) (by decide) (by decide) ?_
    show Steps p.tables e below (T5.setTop (mkF m 145 #[.val (.ref a1), .val (.ref a2), .val (.int p3), .val (.int (1 : Int32)), .val (.int (0 : Int32))] [(.double r109)])) _
    exact retOut X5 hx Bd.returns rfl (Or.inr (Or.inr (Or.inl ⟨rfl, rfl, _, rfl⟩))) (hb hby d3_145) hr
  · show QP (some (.double r109)) h0 n0 _ T5.heap _
    exact ⟨rfl, N5, eh5⟩
set_option maxRecDepth 65536 in
set_option maxHeartbeats 40000000 in
theorem rm3_2ff (l : Launch) (Z : State) (a0 : Array Value) (hw : ∀ d ∈ tables_1, d.before a0 Z = true) (ws : List Jvm.Cond) (a1 : Addr) (a2 : Addr) (p3 : Int32) (cl_a2 : Cell) (z_a2 : Int32) (w4 : Int32) (w6 : Int32) (r109 : UInt64) (h0 : Heap) (n0 : Nat) (Z0 : n0 ≤ h0.size) (Ar_a2 : Arr Z h0 a2 cl_a2 .int) (S_a2 : cl_a2.slots.size = z_a2.toNatClampNeg) (N_a2 : ¬ z_a2 < 0) (hin17 : ¬ ((0 : Int32) < 0 ∨ cl_a2.slots.size ≤ ((0 : Int32)).toNatClampNeg)) (hat17 : cl_a2.slots[((0 : Int32)).toNatClampNeg]? = some (.int w4)) (E_a1 : Exa Z h0 a1 "com/example/pesquisa/pesquisa/Measure") (hin107 : ¬ ((0 : Int32) < 0 ∨ cl_a2.slots.size ≤ ((0 : Int32)).toNatClampNeg)) (hat107 : cl_a2.slots[((0 : Int32)).toNatClampNeg]? = some (.int w6)) (hc2 : (0 : Int32) < z_a2) (hc20 : ¬ ((10 : Int32) < w4)) (hv109 : (FP.ddiv FP.dconst1 (FP.i2d w6)) = r109) (hn109 : Jvm.Free.Fl.NoNaN64 (FP.ddiv FP.dconst1 (FP.i2d w6))) (F_ord : Fld Z h0 a1 "java/lang/Enum" "ordinal" "I" (.int (2 : Int32))) :
    MetFree l (⟨"com/example/pesquisa/pesquisa/Measure", "score", "([II)D"⟩ : MethodName) (head1 (Jvm.Cond.code (⟨"com/example/pesquisa/pesquisa/Measure", "score", "([II)D"⟩ : MethodName) prog_6_method_5_code 5 (some .double) :: ws) ({ frames := 1, cells := 0, slots := 0, locals := 40 } : Room)) (fun a U => a = #[(.ref a1), (.ref a2), (.int p3)] ∧ Z.Warmed39 U.vm ∧ U.heap = h0) (fun _ _ _ _ _ => True) (fun _ U o U' => ∃ v L, o = .returned v ∧ QP (some (.double r109)) h0 n0 v U'.heap L ∧ FrameEnd U o U' L ({ frames := 1, cells := 0, slots := 0, locals := 40 } : Room).cells ({ frames := 1, cells := 0, slots := 0, locals := 40 } : Room).slots) := by
  refine MetFree.of_bodySF (plainFor_of_name pn_3) hisR ?_
  intro p e s m args below meth c s₁ Bd hml0 hP hK
  obtain ⟨rfl, hZ, hh⟩ := hP
  have hx := Bd.exec
  have hby := Bd.bytes
  have hml : c.maxLocals = 5 := hml0
  have hown : s.vm.findClass "com/example/pesquisa/pesquisa/Measure" = some m.cls := findClass_of_methodNamed Bd.named
  have hnm := (name_of_methodNamed Bd.named Bd.method).1
  have X0 : Stand p l e ({ frames := 1, cells := 0, slots := 0, locals := 40 } : Room) s m #[(.ref a1), (.ref a2), (.int p3)] below meth c s₁ [] 0 0 := Stand.of_body Bd
  have e0 : s₁.heap = h0 := by rw [← hh, Bd.state]; rfl
  have N0 := Fr.nil n0
  have pre0 : ∀ t, Steps p.tables e below (s₁.setTop (mkF m 0 #[.val (.ref a1), .val (.ref a2), .val (.int p3), .unset, .unset] [])) t → Steps p.tables e below (s₁.setTop (entryFrame m #[(.ref a1), (.ref a2), (.int p3)] 5)) t := fun t k => castTop (ef_3 m a1 a2 p3) k
  obtain ⟨cq5, kq5, q5a, q5b, q5c⟩ := isOf hZ e0 E_a1
  obtain ⟨_, _, ⟨T5, L5, k5, n5⟩, -, X5, ⟨Lc5, hQ5, l5, y5, z5⟩, st5⟩ := X0.virtualBackUp hx (x := (⟨"com/example/pesquisa/pesquisa/Measure", "ordinal", "()I"⟩ : MethodName)) (y := (⟨"java/lang/Enum", "ordinal", "()I"⟩ : MethodName)) hown (mvT hZ (hw _ (List.mem_of_getElem? (i := 18) rfl))) (mvT hZ (hw _ (List.mem_of_getElem? (i := 19) rfl))) (mvT hZ (hw _ (List.mem_of_getElem? (i := 20) rfl))) (by decide) (mvT hZ (hw _ (List.mem_of_getElem? (i := 22) rfl))) (mvT hZ (hw _ (List.mem_of_getElem? (i := 21) rfl))) (backOf (W := 0) (rm4 l Z a0 hw [] a1 (2 : Int32) h0 n0 Z0 F_ord) hZ (hw _ (List.mem_of_getElem? (i := 24) rfl)) (hw _ (List.mem_of_getElem? (i := 23) rfl)) (by decide) (by decide)) q5a q5c (g := (mkF m 31 #[.val (.ref a1), .val (.ref a2), .val (.int p3), .val (.int (1 : Int32)), .val (.int (1 : Int32))] [(.ref a1)])) rfl (by rw [hml]; rfl) (Steps.refl _) (argsL := []) (rest := []) (lenOf pd_3_3 rfl) rfl (by show 2 * 0 + _ ≤ _; exact Nat.le_of_eq rfl) (hb hby d3_31) (fun _ _ => ⟨rfl, e0, (by decide : 0 + 0 ≤ _), (by decide : 0 + 0 ≤ _)⟩)
  dsimp only [Pt.U, Pt.locs, Pt.cells, Pt.slots] at X5 l5 y5 z5 st5 hQ5
  subst l5 y5 z5
  obtain ⟨rfl, N5q, eh5⟩ := hQ5
  have N5 := Fr.app N0 N5q
  obtain ⟨fs, hr, hrun, hended, hW, hsame⟩ := X5.leave (v := some (.double r109)) (fun h => by rw [Bd.returns] at h; cases h)
  refine ⟨_, _, pre0 _ ?_, hrun, hended, _, _, rfl, ?_, ⟨_, rfl⟩, hW, hsame.mono (by decide) (by decide)⟩
  · show Steps p.tables e below (s₁.setTop (mkF m 0 #[.val (.ref a1), .val (.ref a2), .val (.int p3), .unset, .unset] [])) _
    refine XS.aloadN X0.here hx rfl (hb hby d3_0) rfl rfl ?_
    show Steps p.tables e below (s₁.setTop (mkF m 1 #[.val (.ref a1), .val (.ref a2), .val (.int p3), .unset, .unset] [(.ref a2)])) _
    refine X0.arraylength hx (by rw [e0]; exact Ar_a2.1) (State.isArrayOf_alike hZ.alike Ar_a2.2.1) (g := (mkF m 1 #[.val (.ref a1), .val (.ref a2), .val (.int p3), .unset, .unset] [(.ref a2)])) rfl rfl (hb hby d3_1) _ ?_
    rw [len_of S_a2 N_a2]
    show Steps p.tables e below (s₁.setTop (mkF m 2 #[.val (.ref a1), .val (.ref a2), .val (.int p3), .unset, .unset] [(.int z_a2)])) _
    refine XS.ifNo X0.here hx rfl (hb hby d3_2) rfl ((if0 _ _).trans (tlt hc2).2.2.2) ?_
    show Steps p.tables e below (s₁.setTop (mkF m 5 #[.val (.ref a1), .val (.ref a2), .val (.int p3), .unset, .unset] [])) _
    refine XS.iconst X0.here hx rfl (hb hby d3_5) ?_
    show Steps p.tables e below (s₁.setTop (mkF m 6 #[.val (.ref a1), .val (.ref a2), .val (.int p3), .unset, .unset] [(.int (1 : Int32))])) _
    refine XS.goto X0.here hx rfl (pc0 := 6) (pc' := 10) rfl (hb hby d3_6) (by decide) (by decide) ?_
    show Steps p.tables e below (s₁.setTop (mkF m 10 #[.val (.ref a1), .val (.ref a2), .val (.int p3), .unset, .unset] [(.int (1 : Int32))])) _
    refine XS.istoreN X0.here hx rfl (hb hby d3_10) rfl (l' := #[.val (.ref a1), .val (.ref a2), .val (.int p3), .val (.int (1 : Int32)), .unset]) rfl ?_
    show Steps p.tables e below (s₁.setTop (mkF m 11 #[.val (.ref a1), .val (.ref a2), .val (.int p3), .val (.int (1 : Int32)), .unset] [])) _
    refine XS.iloadN X0.here hx rfl (hb hby d3_11) rfl ?_
    show Steps p.tables e below (s₁.setTop (mkF m 12 #[.val (.ref a1), .val (.ref a2), .val (.int p3), .val (.int (1 : Int32)), .unset] [(.int (1 : Int32))])) _
    refine XS.ifNo X0.here hx rfl (hb hby d3_12) rfl ((if0 _ _).trans (feq (by decide : ¬ ((1 : Int32) = (0 : Int32)))).1) ?_
    show Steps p.tables e below (s₁.setTop (mkF m 15 #[.val (.ref a1), .val (.ref a2), .val (.int p3), .val (.int (1 : Int32)), .unset] [])) _
    refine XS.aloadN X0.here hx rfl (hb hby d3_15) rfl rfl ?_
    show Steps p.tables e below (s₁.setTop (mkF m 16 #[.val (.ref a1), .val (.ref a2), .val (.int p3), .val (.int (1 : Int32)), .unset] [(.ref a2)])) _
    refine XS.iconst X0.here hx rfl (hb hby d3_16) ?_
    show Steps p.tables e below (s₁.setTop (mkF m 17 #[.val (.ref a1), .val (.ref a2), .val (.int p3), .val (.int (1 : Int32)), .unset] [(.int (0 : Int32)), (.ref a2)])) _
    refine X0.iaload hx (j := (0 : Int32)) (v := (.int w4)) (by rw [e0]; exact Ar_a2.1) (State.isArrayOf_alike hZ.alike Ar_a2.2.1) Ar_a2.2.2 hin17 hat17 (g := (mkF m 17 #[.val (.ref a1), .val (.ref a2), .val (.int p3), .val (.int (1 : Int32)), .unset] [(.int (0 : Int32)), (.ref a2)])) rfl rfl (hb hby d3_17) _ ?_
    show Steps p.tables e below (s₁.setTop (mkF m 18 #[.val (.ref a1), .val (.ref a2), .val (.int p3), .val (.int (1 : Int32)), .unset] [(.int w4)])) _
    refine XS.bipush X0.here hx rfl (hb hby d3_18) ?_
    show Steps p.tables e below (s₁.setTop (mkF m 20 #[.val (.ref a1), .val (.ref a2), .val (.int p3), .val (.int (1 : Int32)), .unset] [(.int (10 : Int32)), (.int w4)])) _
    refine XS.icmpNo X0.here hx rfl (hb hby d3_20) rfl (flt hc20).2.2.1 ?_
    show Steps p.tables e below (s₁.setTop (mkF m 23 #[.val (.ref a1), .val (.ref a2), .val (.int p3), .val (.int (1 : Int32)), .unset] [])) _
    refine XS.iconst X0.here hx rfl (hb hby d3_23) ?_
    show Steps p.tables e below (s₁.setTop (mkF m 24 #[.val (.ref a1), .val (.ref a2), .val (.int p3), .val (.int (1 : Int32)), .unset] [(.int (1 : Int32))])) _
    refine XS.goto X0.here hx rfl (pc0 := 24) (pc' := 28) rfl (hb hby d3_24) (by decide) (by decide) ?_
    show Steps p.tables e below (s₁.setTop (mkF m 28 #[.val (.ref a1), .val (.ref a2), .val (.int p3), .val (.int (1 : Int32)), .unset] [(.int (1 : Int32))])) _
    refine XS.istore X0.here hx rfl (hb hby d3_28) rfl (l' := #[.val (.ref a1), .val (.ref a2), .val (.int p3), .val (.int (1 : Int32)), .val (.int (1 : Int32))]) rfl ?_
    show Steps p.tables e below (s₁.setTop (mkF m 30 #[.val (.ref a1), .val (.ref a2), .val (.int p3), .val (.int (1 : Int32)), .val (.int (1 : Int32))] [])) _
    refine XS.aloadN X0.here hx rfl (hb hby d3_30) rfl rfl ?_
    show Steps p.tables e below (s₁.setTop (mkF m 31 #[.val (.ref a1), .val (.ref a2), .val (.int p3), .val (.int (1 : Int32)), .val (.int (1 : Int32))] [(.ref a1)])) _
    refine st5.trans ?_
    show Steps p.tables e below (T5.setTop (mkF m 34 #[.val (.ref a1), .val (.ref a2), .val (.int p3), .val (.int (1 : Int32)), .val (.int (1 : Int32))] [(.int (2 : Int32))])) _
    refine XS.tswIn X5.here hx rfl (pc0 := 34) (pc' := 100) rfl (hb hby d3_34) rfl (by decide) rfl (by decide) (by decide) ?_
    show Steps p.tables e below (T5.setTop (mkF m 100 #[.val (.ref a1), .val (.ref a2), .val (.int p3), .val (.int (1 : Int32)), .val (.int (1 : Int32))] [])) _
    refine XS.iloadN X5.here hx rfl (hb hby d3_100) rfl ?_
    show Steps p.tables e below (T5.setTop (mkF m 101 #[.val (.ref a1), .val (.ref a2), .val (.int p3), .val (.int (1 : Int32)), .val (.int (1 : Int32))] [(.int (1 : Int32))])) _
    refine XS.ifNo X5.here hx rfl (hb hby d3_101) rfl ((if0 _ _).trans (feq (by decide : ¬ ((1 : Int32) = (0 : Int32)))).1) ?_
    show Steps p.tables e below (T5.setTop (mkF m 104 #[.val (.ref a1), .val (.ref a2), .val (.int p3), .val (.int (1 : Int32)), .val (.int (1 : Int32))] [])) _
    refine XS.dconst1 X5.here hx rfl (hb hby d3_104) rfl ?_
    show Steps p.tables e below (T5.setTop (mkF m 105 #[.val (.ref a1), .val (.ref a2), .val (.int p3), .val (.int (1 : Int32)), .val (.int (1 : Int32))] [(.double FP.dconst1)])) _
    refine XS.aloadN X5.here hx rfl (hb hby d3_105) rfl rfl ?_
    show Steps p.tables e below (T5.setTop (mkF m 106 #[.val (.ref a1), .val (.ref a2), .val (.int p3), .val (.int (1 : Int32)), .val (.int (1 : Int32))] [(.ref a2), (.double FP.dconst1)])) _
    refine XS.iconst X5.here hx rfl (hb hby d3_106) ?_
    show Steps p.tables e below (T5.setTop (mkF m 107 #[.val (.ref a1), .val (.ref a2), .val (.int p3), .val (.int (1 : Int32)), .val (.int (1 : Int32))] [(.int (0 : Int32)), (.ref a2), (.double FP.dconst1)])) _
    refine X5.iaload hx (j := (0 : Int32)) (v := (.int w6)) (by rw [eh5]; exact Ar_a2.1) (State.isArrayOf_alike hZ.alike Ar_a2.2.1) Ar_a2.2.2 hin107 hat107 (g := (mkF m 107 #[.val (.ref a1), .val (.ref a2), .val (.int p3), .val (.int (1 : Int32)), .val (.int (1 : Int32))] [(.int (0 : Int32)), (.ref a2), (.double FP.dconst1)])) rfl rfl (hb hby d3_107) _ ?_
    show Steps p.tables e below (T5.setTop (mkF m 108 #[.val (.ref a1), .val (.ref a2), .val (.int p3), .val (.int (1 : Int32)), .val (.int (1 : Int32))] [(.int w6), (.double FP.dconst1)])) _
    refine XS.i2dS X5.here hx rfl (hb hby d3_108) rfl rfl ?_
    show Steps p.tables e below (T5.setTop (mkF m 109 #[.val (.ref a1), .val (.ref a2), .val (.int p3), .val (.int (1 : Int32)), .val (.int (1 : Int32))] [(.double (FP.i2d w6)), (.double FP.dconst1)])) _
    refine XS.ddivS X5.here hx rfl (hb hby d3_109) rfl hn109 hv109 ?_
    show Steps p.tables e below (T5.setTop (mkF m 110 #[.val (.ref a1), .val (.ref a2), .val (.int p3), .val (.int (1 : Int32)), .val (.int (1 : Int32))] [(.double r109)])) _
    refine XS.goto X5.here hx rfl (pc0 := 110) (pc' := 145) rfl (hb hby d3_110) (by decide) (by decide) ?_
    show Steps p.tables e below (T5.setTop (mkF m 145 #[.val (.ref a1), .val (.ref a2), .val (.int p3), .val (.int (1 : Int32)), .val (.int (1 : Int32))] [(.double r109)])) _
    exact retOut X5 hx Bd.returns rfl (Or.inr (Or.inr (Or.inl ⟨rfl, rfl, _, rfl⟩))) (hb hby d3_145) hr
  · show QP (some (.double r109)) h0 n0 _ T5.heap _
    exact ⟨rfl, N5, eh5⟩
theorem d3_117 : decode prog_6_method_5_code 117 = .ok (.iload 4, 2) := by decide +kernel
theorem d3_119 : decode prog_6_method_5_code 119 = .ok (.ifCond .eq 12, 3) := by decide +kernel
theorem d3_131 : decode prog_6_method_5_code 131 = .ok (.dconst 0, 1) := by decide +kernel
theorem d3_132 : decode prog_6_method_5_code 132 = .ok (.goto 13, 3) := by decide +kernel
set_option maxRecDepth 65536 in
set_option maxHeartbeats 40000000 in
theorem rm3_3t (l : Launch) (Z : State) (a0 : Array Value) (hw : ∀ d ∈ tables_1, d.before a0 Z = true) (ws : List Jvm.Cond) (a1 : Addr) (a2 : Addr) (p3 : Int32) (cl_a2 : Cell) (z_a2 : Int32) (h0 : Heap) (n0 : Nat) (Z0 : n0 ≤ h0.size) (Ar_a2 : Arr Z h0 a2 cl_a2 .int) (S_a2 : cl_a2.slots.size = z_a2.toNatClampNeg) (N_a2 : ¬ z_a2 < 0) (E_a1 : Exa Z h0 a1 "com/example/pesquisa/pesquisa/Measure") (hc2 : ¬ ((0 : Int32) < z_a2)) (F_ord : Fld Z h0 a1 "java/lang/Enum" "ordinal" "I" (.int (3 : Int32))) :
    MetFree l (⟨"com/example/pesquisa/pesquisa/Measure", "score", "([II)D"⟩ : MethodName) (head1 (Jvm.Cond.code (⟨"com/example/pesquisa/pesquisa/Measure", "score", "([II)D"⟩ : MethodName) prog_6_method_5_code 5 (some .double) :: ws) ({ frames := 1, cells := 0, slots := 0, locals := 40 } : Room)) (fun a U => a = #[(.ref a1), (.ref a2), (.int p3)] ∧ Z.Warmed39 U.vm ∧ U.heap = h0) (fun _ _ _ _ _ => True) (fun _ U o U' => ∃ v L, o = .returned v ∧ QP (some (.double FP.dconst0)) h0 n0 v U'.heap L ∧ FrameEnd U o U' L ({ frames := 1, cells := 0, slots := 0, locals := 40 } : Room).cells ({ frames := 1, cells := 0, slots := 0, locals := 40 } : Room).slots) := by
  refine MetFree.of_bodySF (plainFor_of_name pn_3) hisR ?_
  intro p e s m args below meth c s₁ Bd hml0 hP hK
  obtain ⟨rfl, hZ, hh⟩ := hP
  have hx := Bd.exec
  have hby := Bd.bytes
  have hml : c.maxLocals = 5 := hml0
  have hown : s.vm.findClass "com/example/pesquisa/pesquisa/Measure" = some m.cls := findClass_of_methodNamed Bd.named
  have hnm := (name_of_methodNamed Bd.named Bd.method).1
  have X0 : Stand p l e ({ frames := 1, cells := 0, slots := 0, locals := 40 } : Room) s m #[(.ref a1), (.ref a2), (.int p3)] below meth c s₁ [] 0 0 := Stand.of_body Bd
  have e0 : s₁.heap = h0 := by rw [← hh, Bd.state]; rfl
  have N0 := Fr.nil n0
  have pre0 : ∀ t, Steps p.tables e below (s₁.setTop (mkF m 0 #[.val (.ref a1), .val (.ref a2), .val (.int p3), .unset, .unset] [])) t → Steps p.tables e below (s₁.setTop (entryFrame m #[(.ref a1), (.ref a2), (.int p3)] 5)) t := fun t k => castTop (ef_3 m a1 a2 p3) k
  obtain ⟨cq4, kq4, q4a, q4b, q4c⟩ := isOf hZ e0 E_a1
  obtain ⟨_, _, ⟨T4, L4, k4, n4⟩, -, X4, ⟨Lc4, hQ4, l4, y4, z4⟩, st4⟩ := X0.virtualBackUp hx (x := (⟨"com/example/pesquisa/pesquisa/Measure", "ordinal", "()I"⟩ : MethodName)) (y := (⟨"java/lang/Enum", "ordinal", "()I"⟩ : MethodName)) hown (mvT hZ (hw _ (List.mem_of_getElem? (i := 18) rfl))) (mvT hZ (hw _ (List.mem_of_getElem? (i := 19) rfl))) (mvT hZ (hw _ (List.mem_of_getElem? (i := 20) rfl))) (by decide) (mvT hZ (hw _ (List.mem_of_getElem? (i := 22) rfl))) (mvT hZ (hw _ (List.mem_of_getElem? (i := 21) rfl))) (backOf (W := 0) (rm4 l Z a0 hw [] a1 (3 : Int32) h0 n0 Z0 F_ord) hZ (hw _ (List.mem_of_getElem? (i := 24) rfl)) (hw _ (List.mem_of_getElem? (i := 23) rfl)) (by decide) (by decide)) q4a q4c (g := (mkF m 31 #[.val (.ref a1), .val (.ref a2), .val (.int p3), .val (.int (0 : Int32)), .val (.int (0 : Int32))] [(.ref a1)])) rfl (by rw [hml]; rfl) (Steps.refl _) (argsL := []) (rest := []) (lenOf pd_3_3 rfl) rfl (by show 2 * 0 + _ ≤ _; exact Nat.le_of_eq rfl) (hb hby d3_31) (fun _ _ => ⟨rfl, e0, (by decide : 0 + 0 ≤ _), (by decide : 0 + 0 ≤ _)⟩)
  dsimp only [Pt.U, Pt.locs, Pt.cells, Pt.slots] at X4 l4 y4 z4 st4 hQ4
  subst l4 y4 z4
  obtain ⟨rfl, N4q, eh4⟩ := hQ4
  have N4 := Fr.app N0 N4q
  obtain ⟨fs, hr, hrun, hended, hW, hsame⟩ := X4.leave (v := some (.double FP.dconst0)) (fun h => by rw [Bd.returns] at h; cases h)
  refine ⟨_, _, pre0 _ ?_, hrun, hended, _, _, rfl, ?_, ⟨_, rfl⟩, hW, hsame.mono (by decide) (by decide)⟩
  · show Steps p.tables e below (s₁.setTop (mkF m 0 #[.val (.ref a1), .val (.ref a2), .val (.int p3), .unset, .unset] [])) _
    refine XS.aloadN X0.here hx rfl (hb hby d3_0) rfl rfl ?_
    show Steps p.tables e below (s₁.setTop (mkF m 1 #[.val (.ref a1), .val (.ref a2), .val (.int p3), .unset, .unset] [(.ref a2)])) _
    refine X0.arraylength hx (by rw [e0]; exact Ar_a2.1) (State.isArrayOf_alike hZ.alike Ar_a2.2.1) (g := (mkF m 1 #[.val (.ref a1), .val (.ref a2), .val (.int p3), .unset, .unset] [(.ref a2)])) rfl rfl (hb hby d3_1) _ ?_
    rw [len_of S_a2 N_a2]
    show Steps p.tables e below (s₁.setTop (mkF m 2 #[.val (.ref a1), .val (.ref a2), .val (.int p3), .unset, .unset] [(.int z_a2)])) _
    refine XS.ifYes X0.here hx rfl (pc0 := 2) (pc' := 9) rfl (hb hby d3_2) rfl ((if0 _ _).trans (flt hc2).2.2.2) (by decide) (by decide) ?_
    show Steps p.tables e below (s₁.setTop (mkF m 9 #[.val (.ref a1), .val (.ref a2), .val (.int p3), .unset, .unset] [])) _
    refine XS.iconst X0.here hx rfl (hb hby d3_9) ?_
    show Steps p.tables e below (s₁.setTop (mkF m 10 #[.val (.ref a1), .val (.ref a2), .val (.int p3), .unset, .unset] [(.int (0 : Int32))])) _
    refine XS.istoreN X0.here hx rfl (hb hby d3_10) rfl (l' := #[.val (.ref a1), .val (.ref a2), .val (.int p3), .val (.int (0 : Int32)), .unset]) rfl ?_
    show Steps p.tables e below (s₁.setTop (mkF m 11 #[.val (.ref a1), .val (.ref a2), .val (.int p3), .val (.int (0 : Int32)), .unset] [])) _
    refine XS.iloadN X0.here hx rfl (hb hby d3_11) rfl ?_
    show Steps p.tables e below (s₁.setTop (mkF m 12 #[.val (.ref a1), .val (.ref a2), .val (.int p3), .val (.int (0 : Int32)), .unset] [(.int (0 : Int32))])) _
    refine XS.ifYes X0.here hx rfl (pc0 := 12) (pc' := 27) rfl (hb hby d3_12) rfl ((if0 _ _).trans (teq (by decide : (0 : Int32) = (0 : Int32))).1) (by decide) (by decide) ?_
    show Steps p.tables e below (s₁.setTop (mkF m 27 #[.val (.ref a1), .val (.ref a2), .val (.int p3), .val (.int (0 : Int32)), .unset] [])) _
    refine XS.iconst X0.here hx rfl (hb hby d3_27) ?_
    show Steps p.tables e below (s₁.setTop (mkF m 28 #[.val (.ref a1), .val (.ref a2), .val (.int p3), .val (.int (0 : Int32)), .unset] [(.int (0 : Int32))])) _
    refine XS.istore X0.here hx rfl (hb hby d3_28) rfl (l' := #[.val (.ref a1), .val (.ref a2), .val (.int p3), .val (.int (0 : Int32)), .val (.int (0 : Int32))]) rfl ?_
    show Steps p.tables e below (s₁.setTop (mkF m 30 #[.val (.ref a1), .val (.ref a2), .val (.int p3), .val (.int (0 : Int32)), .val (.int (0 : Int32))] [])) _
    refine XS.aloadN X0.here hx rfl (hb hby d3_30) rfl rfl ?_
    show Steps p.tables e below (s₁.setTop (mkF m 31 #[.val (.ref a1), .val (.ref a2), .val (.int p3), .val (.int (0 : Int32)), .val (.int (0 : Int32))] [(.ref a1)])) _
    refine st4.trans ?_
    show Steps p.tables e below (T4.setTop (mkF m 34 #[.val (.ref a1), .val (.ref a2), .val (.int p3), .val (.int (0 : Int32)), .val (.int (0 : Int32))] [(.int (3 : Int32))])) _
    refine XS.tswIn X4.here hx rfl (pc0 := 34) (pc' := 117) rfl (hb hby d3_34) rfl (by decide) rfl (by decide) (by decide) ?_
    show Steps p.tables e below (T4.setTop (mkF m 117 #[.val (.ref a1), .val (.ref a2), .val (.int p3), .val (.int (0 : Int32)), .val (.int (0 : Int32))] [])) _
    refine XS.iload X4.here hx rfl (hb hby d3_117) rfl ?_
    show Steps p.tables e below (T4.setTop (mkF m 119 #[.val (.ref a1), .val (.ref a2), .val (.int p3), .val (.int (0 : Int32)), .val (.int (0 : Int32))] [(.int (0 : Int32))])) _
    refine XS.ifYes X4.here hx rfl (pc0 := 119) (pc' := 131) rfl (hb hby d3_119) rfl ((if0 _ _).trans (teq (by decide : (0 : Int32) = (0 : Int32))).1) (by decide) (by decide) ?_
    show Steps p.tables e below (T4.setTop (mkF m 131 #[.val (.ref a1), .val (.ref a2), .val (.int p3), .val (.int (0 : Int32)), .val (.int (0 : Int32))] [])) _
    refine XS.dconst0 X4.here hx rfl (hb hby d3_131) rfl ?_
    show Steps p.tables e below (T4.setTop (mkF m 132 #[.val (.ref a1), .val (.ref a2), .val (.int p3), .val (.int (0 : Int32)), .val (.int (0 : Int32))] [(.double FP.dconst0)])) _
    refine XS.goto X4.here hx rfl (pc0 := 132) (pc' := 145) rfl (hb hby d3_132) (by decide) (by decide) ?_
    show Steps p.tables e below (T4.setTop (mkF m 145 #[.val (.ref a1), .val (.ref a2), .val (.int p3), .val (.int (0 : Int32)), .val (.int (0 : Int32))] [(.double FP.dconst0)])) _
    exact retOut X4 hx Bd.returns rfl (Or.inr (Or.inr (Or.inl ⟨rfl, rfl, _, rfl⟩))) (hb hby d3_145) hr
  · show QP (some (.double FP.dconst0)) h0 n0 _ T4.heap _
    exact ⟨rfl, N4, eh4⟩
set_option maxRecDepth 65536 in
set_option maxHeartbeats 40000000 in
theorem rm3_3ft (l : Launch) (Z : State) (a0 : Array Value) (hw : ∀ d ∈ tables_1, d.before a0 Z = true) (ws : List Jvm.Cond) (a1 : Addr) (a2 : Addr) (p3 : Int32) (cl_a2 : Cell) (z_a2 : Int32) (w4 : Int32) (h0 : Heap) (n0 : Nat) (Z0 : n0 ≤ h0.size) (Ar_a2 : Arr Z h0 a2 cl_a2 .int) (S_a2 : cl_a2.slots.size = z_a2.toNatClampNeg) (N_a2 : ¬ z_a2 < 0) (hin17 : ¬ ((0 : Int32) < 0 ∨ cl_a2.slots.size ≤ ((0 : Int32)).toNatClampNeg)) (hat17 : cl_a2.slots[((0 : Int32)).toNatClampNeg]? = some (.int w4)) (E_a1 : Exa Z h0 a1 "com/example/pesquisa/pesquisa/Measure") (hc2 : (0 : Int32) < z_a2) (hc20 : (10 : Int32) < w4) (F_ord : Fld Z h0 a1 "java/lang/Enum" "ordinal" "I" (.int (3 : Int32))) :
    MetFree l (⟨"com/example/pesquisa/pesquisa/Measure", "score", "([II)D"⟩ : MethodName) (head1 (Jvm.Cond.code (⟨"com/example/pesquisa/pesquisa/Measure", "score", "([II)D"⟩ : MethodName) prog_6_method_5_code 5 (some .double) :: ws) ({ frames := 1, cells := 0, slots := 0, locals := 40 } : Room)) (fun a U => a = #[(.ref a1), (.ref a2), (.int p3)] ∧ Z.Warmed39 U.vm ∧ U.heap = h0) (fun _ _ _ _ _ => True) (fun _ U o U' => ∃ v L, o = .returned v ∧ QP (some (.double FP.dconst0)) h0 n0 v U'.heap L ∧ FrameEnd U o U' L ({ frames := 1, cells := 0, slots := 0, locals := 40 } : Room).cells ({ frames := 1, cells := 0, slots := 0, locals := 40 } : Room).slots) := by
  refine MetFree.of_bodySF (plainFor_of_name pn_3) hisR ?_
  intro p e s m args below meth c s₁ Bd hml0 hP hK
  obtain ⟨rfl, hZ, hh⟩ := hP
  have hx := Bd.exec
  have hby := Bd.bytes
  have hml : c.maxLocals = 5 := hml0
  have hown : s.vm.findClass "com/example/pesquisa/pesquisa/Measure" = some m.cls := findClass_of_methodNamed Bd.named
  have hnm := (name_of_methodNamed Bd.named Bd.method).1
  have X0 : Stand p l e ({ frames := 1, cells := 0, slots := 0, locals := 40 } : Room) s m #[(.ref a1), (.ref a2), (.int p3)] below meth c s₁ [] 0 0 := Stand.of_body Bd
  have e0 : s₁.heap = h0 := by rw [← hh, Bd.state]; rfl
  have N0 := Fr.nil n0
  have pre0 : ∀ t, Steps p.tables e below (s₁.setTop (mkF m 0 #[.val (.ref a1), .val (.ref a2), .val (.int p3), .unset, .unset] [])) t → Steps p.tables e below (s₁.setTop (entryFrame m #[(.ref a1), (.ref a2), (.int p3)] 5)) t := fun t k => castTop (ef_3 m a1 a2 p3) k
  obtain ⟨cq5, kq5, q5a, q5b, q5c⟩ := isOf hZ e0 E_a1
  obtain ⟨_, _, ⟨T5, L5, k5, n5⟩, -, X5, ⟨Lc5, hQ5, l5, y5, z5⟩, st5⟩ := X0.virtualBackUp hx (x := (⟨"com/example/pesquisa/pesquisa/Measure", "ordinal", "()I"⟩ : MethodName)) (y := (⟨"java/lang/Enum", "ordinal", "()I"⟩ : MethodName)) hown (mvT hZ (hw _ (List.mem_of_getElem? (i := 18) rfl))) (mvT hZ (hw _ (List.mem_of_getElem? (i := 19) rfl))) (mvT hZ (hw _ (List.mem_of_getElem? (i := 20) rfl))) (by decide) (mvT hZ (hw _ (List.mem_of_getElem? (i := 22) rfl))) (mvT hZ (hw _ (List.mem_of_getElem? (i := 21) rfl))) (backOf (W := 0) (rm4 l Z a0 hw [] a1 (3 : Int32) h0 n0 Z0 F_ord) hZ (hw _ (List.mem_of_getElem? (i := 24) rfl)) (hw _ (List.mem_of_getElem? (i := 23) rfl)) (by decide) (by decide)) q5a q5c (g := (mkF m 31 #[.val (.ref a1), .val (.ref a2), .val (.int p3), .val (.int (1 : Int32)), .val (.int (0 : Int32))] [(.ref a1)])) rfl (by rw [hml]; rfl) (Steps.refl _) (argsL := []) (rest := []) (lenOf pd_3_3 rfl) rfl (by show 2 * 0 + _ ≤ _; exact Nat.le_of_eq rfl) (hb hby d3_31) (fun _ _ => ⟨rfl, e0, (by decide : 0 + 0 ≤ _), (by decide : 0 + 0 ≤ _)⟩)
  dsimp only [Pt.U, Pt.locs, Pt.cells, Pt.slots] at X5 l5 y5 z5 st5 hQ5
  subst l5 y5 z5
  obtain ⟨rfl, N5q, eh5⟩ := hQ5
  have N5 := Fr.app N0 N5q
  obtain ⟨fs, hr, hrun, hended, hW, hsame⟩ := X5.leave (v := some (.double FP.dconst0)) (fun h => by rw [Bd.returns] at h; cases h)
  refine ⟨_, _, pre0 _ ?_, hrun, hended, _, _, rfl, ?_, ⟨_, rfl⟩, hW, hsame.mono (by decide) (by decide)⟩
  · show Steps p.tables e below (s₁.setTop (mkF m 0 #[.val (.ref a1), .val (.ref a2), .val (.int p3), .unset, .unset] [])) _
    refine XS.aloadN X0.here hx rfl (hb hby d3_0) rfl rfl ?_
    show Steps p.tables e below (s₁.setTop (mkF m 1 #[.val (.ref a1), .val (.ref a2), .val (.int p3), .unset, .unset] [(.ref a2)])) _
    refine X0.arraylength hx (by rw [e0]; exact Ar_a2.1) (State.isArrayOf_alike hZ.alike Ar_a2.2.1) (g := (mkF m 1 #[.val (.ref a1), .val (.ref a2), .val (.int p3), .unset, .unset] [(.ref a2)])) rfl rfl (hb hby d3_1) _ ?_
    rw [len_of S_a2 N_a2]
    show Steps p.tables e below (s₁.setTop (mkF m 2 #[.val (.ref a1), .val (.ref a2), .val (.int p3), .unset, .unset] [(.int z_a2)])) _
    refine XS.ifNo X0.here hx rfl (hb hby d3_2) rfl ((if0 _ _).trans (tlt hc2).2.2.2) ?_
    show Steps p.tables e below (s₁.setTop (mkF m 5 #[.val (.ref a1), .val (.ref a2), .val (.int p3), .unset, .unset] [])) _
    refine XS.iconst X0.here hx rfl (hb hby d3_5) ?_
    show Steps p.tables e below (s₁.setTop (mkF m 6 #[.val (.ref a1), .val (.ref a2), .val (.int p3), .unset, .unset] [(.int (1 : Int32))])) _
    refine XS.goto X0.here hx rfl (pc0 := 6) (pc' := 10) rfl (hb hby d3_6) (by decide) (by decide) ?_
    show Steps p.tables e below (s₁.setTop (mkF m 10 #[.val (.ref a1), .val (.ref a2), .val (.int p3), .unset, .unset] [(.int (1 : Int32))])) _
    refine XS.istoreN X0.here hx rfl (hb hby d3_10) rfl (l' := #[.val (.ref a1), .val (.ref a2), .val (.int p3), .val (.int (1 : Int32)), .unset]) rfl ?_
    show Steps p.tables e below (s₁.setTop (mkF m 11 #[.val (.ref a1), .val (.ref a2), .val (.int p3), .val (.int (1 : Int32)), .unset] [])) _
    refine XS.iloadN X0.here hx rfl (hb hby d3_11) rfl ?_
    show Steps p.tables e below (s₁.setTop (mkF m 12 #[.val (.ref a1), .val (.ref a2), .val (.int p3), .val (.int (1 : Int32)), .unset] [(.int (1 : Int32))])) _
    refine XS.ifNo X0.here hx rfl (hb hby d3_12) rfl ((if0 _ _).trans (feq (by decide : ¬ ((1 : Int32) = (0 : Int32)))).1) ?_
    show Steps p.tables e below (s₁.setTop (mkF m 15 #[.val (.ref a1), .val (.ref a2), .val (.int p3), .val (.int (1 : Int32)), .unset] [])) _
    refine XS.aloadN X0.here hx rfl (hb hby d3_15) rfl rfl ?_
    show Steps p.tables e below (s₁.setTop (mkF m 16 #[.val (.ref a1), .val (.ref a2), .val (.int p3), .val (.int (1 : Int32)), .unset] [(.ref a2)])) _
    refine XS.iconst X0.here hx rfl (hb hby d3_16) ?_
    show Steps p.tables e below (s₁.setTop (mkF m 17 #[.val (.ref a1), .val (.ref a2), .val (.int p3), .val (.int (1 : Int32)), .unset] [(.int (0 : Int32)), (.ref a2)])) _
    refine X0.iaload hx (j := (0 : Int32)) (v := (.int w4)) (by rw [e0]; exact Ar_a2.1) (State.isArrayOf_alike hZ.alike Ar_a2.2.1) Ar_a2.2.2 hin17 hat17 (g := (mkF m 17 #[.val (.ref a1), .val (.ref a2), .val (.int p3), .val (.int (1 : Int32)), .unset] [(.int (0 : Int32)), (.ref a2)])) rfl rfl (hb hby d3_17) _ ?_
    show Steps p.tables e below (s₁.setTop (mkF m 18 #[.val (.ref a1), .val (.ref a2), .val (.int p3), .val (.int (1 : Int32)), .unset] [(.int w4)])) _
    refine XS.bipush X0.here hx rfl (hb hby d3_18) ?_
    show Steps p.tables e below (s₁.setTop (mkF m 20 #[.val (.ref a1), .val (.ref a2), .val (.int p3), .val (.int (1 : Int32)), .unset] [(.int (10 : Int32)), (.int w4)])) _
    refine XS.icmpYes X0.here hx rfl (pc0 := 20) (pc' := 27) rfl (hb hby d3_20) rfl (tlt hc20).2.2.1 (by decide) (by decide) ?_
    show Steps p.tables e below (s₁.setTop (mkF m 27 #[.val (.ref a1), .val (.ref a2), .val (.int p3), .val (.int (1 : Int32)), .unset] [])) _
    refine XS.iconst X0.here hx rfl (hb hby d3_27) ?_
    show Steps p.tables e below (s₁.setTop (mkF m 28 #[.val (.ref a1), .val (.ref a2), .val (.int p3), .val (.int (1 : Int32)), .unset] [(.int (0 : Int32))])) _
    refine XS.istore X0.here hx rfl (hb hby d3_28) rfl (l' := #[.val (.ref a1), .val (.ref a2), .val (.int p3), .val (.int (1 : Int32)), .val (.int (0 : Int32))]) rfl ?_
    show Steps p.tables e below (s₁.setTop (mkF m 30 #[.val (.ref a1), .val (.ref a2), .val (.int p3), .val (.int (1 : Int32)), .val (.int (0 : Int32))] [])) _
    refine XS.aloadN X0.here hx rfl (hb hby d3_30) rfl rfl ?_
    show Steps p.tables e below (s₁.setTop (mkF m 31 #[.val (.ref a1), .val (.ref a2), .val (.int p3), .val (.int (1 : Int32)), .val (.int (0 : Int32))] [(.ref a1)])) _
    refine st5.trans ?_
    show Steps p.tables e below (T5.setTop (mkF m 34 #[.val (.ref a1), .val (.ref a2), .val (.int p3), .val (.int (1 : Int32)), .val (.int (0 : Int32))] [(.int (3 : Int32))])) _
    refine XS.tswIn X5.here hx rfl (pc0 := 34) (pc' := 117) rfl (hb hby d3_34) rfl (by decide) rfl (by decide) (by decide) ?_
    show Steps p.tables e below (T5.setTop (mkF m 117 #[.val (.ref a1), .val (.ref a2), .val (.int p3), .val (.int (1 : Int32)), .val (.int (0 : Int32))] [])) _
    refine XS.iload X5.here hx rfl (hb hby d3_117) rfl ?_
    show Steps p.tables e below (T5.setTop (mkF m 119 #[.val (.ref a1), .val (.ref a2), .val (.int p3), .val (.int (1 : Int32)), .val (.int (0 : Int32))] [(.int (0 : Int32))])) _
    refine XS.ifYes X5.here hx rfl (pc0 := 119) (pc' := 131) rfl (hb hby d3_119) rfl ((if0 _ _).trans (teq (by decide : (0 : Int32) = (0 : Int32))).1) (by decide) (by decide) ?_
    show Steps p.tables e below (T5.setTop (mkF m 131 #[.val (.ref a1), .val (.ref a2), .val (.int p3), .val (.int (1 : Int32)), .val (.int (0 : Int32))] [])) _
    refine XS.dconst0 X5.here hx rfl (hb hby d3_131) rfl ?_
    show Steps p.tables e below (T5.setTop (mkF m 132 #[.val (.ref a1), .val (.ref a2), .val (.int p3), .val (.int (1 : Int32)), .val (.int (0 : Int32))] [(.double FP.dconst0)])) _
    refine XS.goto X5.here hx rfl (pc0 := 132) (pc' := 145) rfl (hb hby d3_132) (by decide) (by decide) ?_
    show Steps p.tables e below (T5.setTop (mkF m 145 #[.val (.ref a1), .val (.ref a2), .val (.int p3), .val (.int (1 : Int32)), .val (.int (0 : Int32))] [(.double FP.dconst0)])) _
    exact retOut X5 hx Bd.returns rfl (Or.inr (Or.inr (Or.inl ⟨rfl, rfl, _, rfl⟩))) (hb hby d3_145) hr
  · show QP (some (.double FP.dconst0)) h0 n0 _ T5.heap _
    exact ⟨rfl, N5, eh5⟩
theorem d3_122 : decode prog_6_method_5_code 122 = .ok (.dconst 1, 1) := by decide +kernel
theorem d3_123 : decode prog_6_method_5_code 123 = .ok (.aload_n 1, 1) := by decide +kernel
theorem d3_124 : decode prog_6_method_5_code 124 = .ok (.iconst 0, 1) := by decide +kernel
theorem d3_125 : decode prog_6_method_5_code 125 = .ok (.iaload, 1) := by decide +kernel
theorem d3_126 : decode prog_6_method_5_code 126 = .ok (.i2d, 1) := by decide +kernel
theorem d3_127 : decode prog_6_method_5_code 127 = .ok (.ddiv, 1) := by decide +kernel
theorem d3_128 : decode prog_6_method_5_code 128 = .ok (.goto 17, 3) := by decide +kernel
set_option maxRecDepth 65536 in
set_option maxHeartbeats 40000000 in
theorem rm3_3ff (l : Launch) (Z : State) (a0 : Array Value) (hw : ∀ d ∈ tables_1, d.before a0 Z = true) (ws : List Jvm.Cond) (a1 : Addr) (a2 : Addr) (p3 : Int32) (cl_a2 : Cell) (z_a2 : Int32) (w4 : Int32) (w6 : Int32) (r127 : UInt64) (h0 : Heap) (n0 : Nat) (Z0 : n0 ≤ h0.size) (Ar_a2 : Arr Z h0 a2 cl_a2 .int) (S_a2 : cl_a2.slots.size = z_a2.toNatClampNeg) (N_a2 : ¬ z_a2 < 0) (hin17 : ¬ ((0 : Int32) < 0 ∨ cl_a2.slots.size ≤ ((0 : Int32)).toNatClampNeg)) (hat17 : cl_a2.slots[((0 : Int32)).toNatClampNeg]? = some (.int w4)) (E_a1 : Exa Z h0 a1 "com/example/pesquisa/pesquisa/Measure") (hin125 : ¬ ((0 : Int32) < 0 ∨ cl_a2.slots.size ≤ ((0 : Int32)).toNatClampNeg)) (hat125 : cl_a2.slots[((0 : Int32)).toNatClampNeg]? = some (.int w6)) (hc2 : (0 : Int32) < z_a2) (hc20 : ¬ ((10 : Int32) < w4)) (hv127 : (FP.ddiv FP.dconst1 (FP.i2d w6)) = r127) (hn127 : Jvm.Free.Fl.NoNaN64 (FP.ddiv FP.dconst1 (FP.i2d w6))) (F_ord : Fld Z h0 a1 "java/lang/Enum" "ordinal" "I" (.int (3 : Int32))) :
    MetFree l (⟨"com/example/pesquisa/pesquisa/Measure", "score", "([II)D"⟩ : MethodName) (head1 (Jvm.Cond.code (⟨"com/example/pesquisa/pesquisa/Measure", "score", "([II)D"⟩ : MethodName) prog_6_method_5_code 5 (some .double) :: ws) ({ frames := 1, cells := 0, slots := 0, locals := 40 } : Room)) (fun a U => a = #[(.ref a1), (.ref a2), (.int p3)] ∧ Z.Warmed39 U.vm ∧ U.heap = h0) (fun _ _ _ _ _ => True) (fun _ U o U' => ∃ v L, o = .returned v ∧ QP (some (.double r127)) h0 n0 v U'.heap L ∧ FrameEnd U o U' L ({ frames := 1, cells := 0, slots := 0, locals := 40 } : Room).cells ({ frames := 1, cells := 0, slots := 0, locals := 40 } : Room).slots) := by
  refine MetFree.of_bodySF (plainFor_of_name pn_3) hisR ?_
  intro p e s m args below meth c s₁ Bd hml0 hP hK
  obtain ⟨rfl, hZ, hh⟩ := hP
  have hx := Bd.exec
  have hby := Bd.bytes
  have hml : c.maxLocals = 5 := hml0
  have hown : s.vm.findClass "com/example/pesquisa/pesquisa/Measure" = some m.cls := findClass_of_methodNamed Bd.named
  have hnm := (name_of_methodNamed Bd.named Bd.method).1
  have X0 : Stand p l e ({ frames := 1, cells := 0, slots := 0, locals := 40 } : Room) s m #[(.ref a1), (.ref a2), (.int p3)] below meth c s₁ [] 0 0 := Stand.of_body Bd
  have e0 : s₁.heap = h0 := by rw [← hh, Bd.state]; rfl
  have N0 := Fr.nil n0
  have pre0 : ∀ t, Steps p.tables e below (s₁.setTop (mkF m 0 #[.val (.ref a1), .val (.ref a2), .val (.int p3), .unset, .unset] [])) t → Steps p.tables e below (s₁.setTop (entryFrame m #[(.ref a1), (.ref a2), (.int p3)] 5)) t := fun t k => castTop (ef_3 m a1 a2 p3) k
  obtain ⟨cq5, kq5, q5a, q5b, q5c⟩ := isOf hZ e0 E_a1
  obtain ⟨_, _, ⟨T5, L5, k5, n5⟩, -, X5, ⟨Lc5, hQ5, l5, y5, z5⟩, st5⟩ := X0.virtualBackUp hx (x := (⟨"com/example/pesquisa/pesquisa/Measure", "ordinal", "()I"⟩ : MethodName)) (y := (⟨"java/lang/Enum", "ordinal", "()I"⟩ : MethodName)) hown (mvT hZ (hw _ (List.mem_of_getElem? (i := 18) rfl))) (mvT hZ (hw _ (List.mem_of_getElem? (i := 19) rfl))) (mvT hZ (hw _ (List.mem_of_getElem? (i := 20) rfl))) (by decide) (mvT hZ (hw _ (List.mem_of_getElem? (i := 22) rfl))) (mvT hZ (hw _ (List.mem_of_getElem? (i := 21) rfl))) (backOf (W := 0) (rm4 l Z a0 hw [] a1 (3 : Int32) h0 n0 Z0 F_ord) hZ (hw _ (List.mem_of_getElem? (i := 24) rfl)) (hw _ (List.mem_of_getElem? (i := 23) rfl)) (by decide) (by decide)) q5a q5c (g := (mkF m 31 #[.val (.ref a1), .val (.ref a2), .val (.int p3), .val (.int (1 : Int32)), .val (.int (1 : Int32))] [(.ref a1)])) rfl (by rw [hml]; rfl) (Steps.refl _) (argsL := []) (rest := []) (lenOf pd_3_3 rfl) rfl (by show 2 * 0 + _ ≤ _; exact Nat.le_of_eq rfl) (hb hby d3_31) (fun _ _ => ⟨rfl, e0, (by decide : 0 + 0 ≤ _), (by decide : 0 + 0 ≤ _)⟩)
  dsimp only [Pt.U, Pt.locs, Pt.cells, Pt.slots] at X5 l5 y5 z5 st5 hQ5
  subst l5 y5 z5
  obtain ⟨rfl, N5q, eh5⟩ := hQ5
  have N5 := Fr.app N0 N5q
  obtain ⟨fs, hr, hrun, hended, hW, hsame⟩ := X5.leave (v := some (.double r127)) (fun h => by rw [Bd.returns] at h; cases h)
  refine ⟨_, _, pre0 _ ?_, hrun, hended, _, _, rfl, ?_, ⟨_, rfl⟩, hW, hsame.mono (by decide) (by decide)⟩
  · show Steps p.tables e below (s₁.setTop (mkF m 0 #[.val (.ref a1), .val (.ref a2), .val (.int p3), .unset, .unset] [])) _
    refine XS.aloadN X0.here hx rfl (hb hby d3_0) rfl rfl ?_
    show Steps p.tables e below (s₁.setTop (mkF m 1 #[.val (.ref a1), .val (.ref a2), .val (.int p3), .unset, .unset] [(.ref a2)])) _
    refine X0.arraylength hx (by rw [e0]; exact Ar_a2.1) (State.isArrayOf_alike hZ.alike Ar_a2.2.1) (g := (mkF m 1 #[.val (.ref a1), .val (.ref a2), .val (.int p3), .unset, .unset] [(.ref a2)])) rfl rfl (hb hby d3_1) _ ?_
    rw [len_of S_a2 N_a2]
    show Steps p.tables e below (s₁.setTop (mkF m 2 #[.val (.ref a1), .val (.ref a2), .val (.int p3), .unset, .unset] [(.int z_a2)])) _
    refine XS.ifNo X0.here hx rfl (hb hby d3_2) rfl ((if0 _ _).trans (tlt hc2).2.2.2) ?_
    show Steps p.tables e below (s₁.setTop (mkF m 5 #[.val (.ref a1), .val (.ref a2), .val (.int p3), .unset, .unset] [])) _
    refine XS.iconst X0.here hx rfl (hb hby d3_5) ?_
    show Steps p.tables e below (s₁.setTop (mkF m 6 #[.val (.ref a1), .val (.ref a2), .val (.int p3), .unset, .unset] [(.int (1 : Int32))])) _
    refine XS.goto X0.here hx rfl (pc0 := 6) (pc' := 10) rfl (hb hby d3_6) (by decide) (by decide) ?_
    show Steps p.tables e below (s₁.setTop (mkF m 10 #[.val (.ref a1), .val (.ref a2), .val (.int p3), .unset, .unset] [(.int (1 : Int32))])) _
    refine XS.istoreN X0.here hx rfl (hb hby d3_10) rfl (l' := #[.val (.ref a1), .val (.ref a2), .val (.int p3), .val (.int (1 : Int32)), .unset]) rfl ?_
    show Steps p.tables e below (s₁.setTop (mkF m 11 #[.val (.ref a1), .val (.ref a2), .val (.int p3), .val (.int (1 : Int32)), .unset] [])) _
    refine XS.iloadN X0.here hx rfl (hb hby d3_11) rfl ?_
    show Steps p.tables e below (s₁.setTop (mkF m 12 #[.val (.ref a1), .val (.ref a2), .val (.int p3), .val (.int (1 : Int32)), .unset] [(.int (1 : Int32))])) _
    refine XS.ifNo X0.here hx rfl (hb hby d3_12) rfl ((if0 _ _).trans (feq (by decide : ¬ ((1 : Int32) = (0 : Int32)))).1) ?_
    show Steps p.tables e below (s₁.setTop (mkF m 15 #[.val (.ref a1), .val (.ref a2), .val (.int p3), .val (.int (1 : Int32)), .unset] [])) _
    refine XS.aloadN X0.here hx rfl (hb hby d3_15) rfl rfl ?_
    show Steps p.tables e below (s₁.setTop (mkF m 16 #[.val (.ref a1), .val (.ref a2), .val (.int p3), .val (.int (1 : Int32)), .unset] [(.ref a2)])) _
    refine XS.iconst X0.here hx rfl (hb hby d3_16) ?_
    show Steps p.tables e below (s₁.setTop (mkF m 17 #[.val (.ref a1), .val (.ref a2), .val (.int p3), .val (.int (1 : Int32)), .unset] [(.int (0 : Int32)), (.ref a2)])) _
    refine X0.iaload hx (j := (0 : Int32)) (v := (.int w4)) (by rw [e0]; exact Ar_a2.1) (State.isArrayOf_alike hZ.alike Ar_a2.2.1) Ar_a2.2.2 hin17 hat17 (g := (mkF m 17 #[.val (.ref a1), .val (.ref a2), .val (.int p3), .val (.int (1 : Int32)), .unset] [(.int (0 : Int32)), (.ref a2)])) rfl rfl (hb hby d3_17) _ ?_
    show Steps p.tables e below (s₁.setTop (mkF m 18 #[.val (.ref a1), .val (.ref a2), .val (.int p3), .val (.int (1 : Int32)), .unset] [(.int w4)])) _
    refine XS.bipush X0.here hx rfl (hb hby d3_18) ?_
    show Steps p.tables e below (s₁.setTop (mkF m 20 #[.val (.ref a1), .val (.ref a2), .val (.int p3), .val (.int (1 : Int32)), .unset] [(.int (10 : Int32)), (.int w4)])) _
    refine XS.icmpNo X0.here hx rfl (hb hby d3_20) rfl (flt hc20).2.2.1 ?_
    show Steps p.tables e below (s₁.setTop (mkF m 23 #[.val (.ref a1), .val (.ref a2), .val (.int p3), .val (.int (1 : Int32)), .unset] [])) _
    refine XS.iconst X0.here hx rfl (hb hby d3_23) ?_
    show Steps p.tables e below (s₁.setTop (mkF m 24 #[.val (.ref a1), .val (.ref a2), .val (.int p3), .val (.int (1 : Int32)), .unset] [(.int (1 : Int32))])) _
    refine XS.goto X0.here hx rfl (pc0 := 24) (pc' := 28) rfl (hb hby d3_24) (by decide) (by decide) ?_
    show Steps p.tables e below (s₁.setTop (mkF m 28 #[.val (.ref a1), .val (.ref a2), .val (.int p3), .val (.int (1 : Int32)), .unset] [(.int (1 : Int32))])) _
    refine XS.istore X0.here hx rfl (hb hby d3_28) rfl (l' := #[.val (.ref a1), .val (.ref a2), .val (.int p3), .val (.int (1 : Int32)), .val (.int (1 : Int32))]) rfl ?_
    show Steps p.tables e below (s₁.setTop (mkF m 30 #[.val (.ref a1), .val (.ref a2), .val (.int p3), .val (.int (1 : Int32)), .val (.int (1 : Int32))] [])) _
    refine XS.aloadN X0.here hx rfl (hb hby d3_30) rfl rfl ?_
    show Steps p.tables e below (s₁.setTop (mkF m 31 #[.val (.ref a1), .val (.ref a2), .val (.int p3), .val (.int (1 : Int32)), .val (.int (1 : Int32))] [(.ref a1)])) _
    refine st5.trans ?_
    show Steps p.tables e below (T5.setTop (mkF m 34 #[.val (.ref a1), .val (.ref a2), .val (.int p3), .val (.int (1 : Int32)), .val (.int (1 : Int32))] [(.int (3 : Int32))])) _
    refine XS.tswIn X5.here hx rfl (pc0 := 34) (pc' := 117) rfl (hb hby d3_34) rfl (by decide) rfl (by decide) (by decide) ?_
    show Steps p.tables e below (T5.setTop (mkF m 117 #[.val (.ref a1), .val (.ref a2), .val (.int p3), .val (.int (1 : Int32)), .val (.int (1 : Int32))] [])) _
    refine XS.iload X5.here hx rfl (hb hby d3_117) rfl ?_
    show Steps p.tables e below (T5.setTop (mkF m 119 #[.val (.ref a1), .val (.ref a2), .val (.int p3), .val (.int (1 : Int32)), .val (.int (1 : Int32))] [(.int (1 : Int32))])) _
    refine XS.ifNo X5.here hx rfl (hb hby d3_119) rfl ((if0 _ _).trans (feq (by decide : ¬ ((1 : Int32) = (0 : Int32)))).1) ?_
    show Steps p.tables e below (T5.setTop (mkF m 122 #[.val (.ref a1), .val (.ref a2), .val (.int p3), .val (.int (1 : Int32)), .val (.int (1 : Int32))] [])) _
    refine XS.dconst1 X5.here hx rfl (hb hby d3_122) rfl ?_
    show Steps p.tables e below (T5.setTop (mkF m 123 #[.val (.ref a1), .val (.ref a2), .val (.int p3), .val (.int (1 : Int32)), .val (.int (1 : Int32))] [(.double FP.dconst1)])) _
    refine XS.aloadN X5.here hx rfl (hb hby d3_123) rfl rfl ?_
    show Steps p.tables e below (T5.setTop (mkF m 124 #[.val (.ref a1), .val (.ref a2), .val (.int p3), .val (.int (1 : Int32)), .val (.int (1 : Int32))] [(.ref a2), (.double FP.dconst1)])) _
    refine XS.iconst X5.here hx rfl (hb hby d3_124) ?_
    show Steps p.tables e below (T5.setTop (mkF m 125 #[.val (.ref a1), .val (.ref a2), .val (.int p3), .val (.int (1 : Int32)), .val (.int (1 : Int32))] [(.int (0 : Int32)), (.ref a2), (.double FP.dconst1)])) _
    refine X5.iaload hx (j := (0 : Int32)) (v := (.int w6)) (by rw [eh5]; exact Ar_a2.1) (State.isArrayOf_alike hZ.alike Ar_a2.2.1) Ar_a2.2.2 hin125 hat125 (g := (mkF m 125 #[.val (.ref a1), .val (.ref a2), .val (.int p3), .val (.int (1 : Int32)), .val (.int (1 : Int32))] [(.int (0 : Int32)), (.ref a2), (.double FP.dconst1)])) rfl rfl (hb hby d3_125) _ ?_
    show Steps p.tables e below (T5.setTop (mkF m 126 #[.val (.ref a1), .val (.ref a2), .val (.int p3), .val (.int (1 : Int32)), .val (.int (1 : Int32))] [(.int w6), (.double FP.dconst1)])) _
    refine XS.i2dS X5.here hx rfl (hb hby d3_126) rfl rfl ?_
    show Steps p.tables e below (T5.setTop (mkF m 127 #[.val (.ref a1), .val (.ref a2), .val (.int p3), .val (.int (1 : Int32)), .val (.int (1 : Int32))] [(.double (FP.i2d w6)), (.double FP.dconst1)])) _
    refine XS.ddivS X5.here hx rfl (hb hby d3_127) rfl hn127 hv127 ?_
    show Steps p.tables e below (T5.setTop (mkF m 128 #[.val (.ref a1), .val (.ref a2), .val (.int p3), .val (.int (1 : Int32)), .val (.int (1 : Int32))] [(.double r127)])) _
    refine XS.goto X5.here hx rfl (pc0 := 128) (pc' := 145) rfl (hb hby d3_128) (by decide) (by decide) ?_
    show Steps p.tables e below (T5.setTop (mkF m 145 #[.val (.ref a1), .val (.ref a2), .val (.int p3), .val (.int (1 : Int32)), .val (.int (1 : Int32))] [(.double r127)])) _
    exact retOut X5 hx Bd.returns rfl (Or.inr (Or.inr (Or.inl ⟨rfl, rfl, _, rfl⟩))) (hb hby d3_145) hr
  · show QP (some (.double r127)) h0 n0 _ T5.heap _
    exact ⟨rfl, N5, eh5⟩
theorem d3_135 : decode prog_6_method_5_code 135 = .ok (.iload 4, 2) := by decide +kernel
theorem d3_137 : decode prog_6_method_5_code 137 = .ok (.ifCond .eq 7, 3) := by decide +kernel
theorem d3_144 : decode prog_6_method_5_code 144 = .ok (.dconst 0, 1) := by decide +kernel
set_option maxRecDepth 65536 in
set_option maxHeartbeats 40000000 in
theorem rm3_4t (l : Launch) (Z : State) (a0 : Array Value) (hw : ∀ d ∈ tables_1, d.before a0 Z = true) (ws : List Jvm.Cond) (a1 : Addr) (a2 : Addr) (p3 : Int32) (cl_a2 : Cell) (z_a2 : Int32) (h0 : Heap) (n0 : Nat) (Z0 : n0 ≤ h0.size) (Ar_a2 : Arr Z h0 a2 cl_a2 .int) (S_a2 : cl_a2.slots.size = z_a2.toNatClampNeg) (N_a2 : ¬ z_a2 < 0) (E_a1 : Exa Z h0 a1 "com/example/pesquisa/pesquisa/Measure") (hc2 : ¬ ((0 : Int32) < z_a2)) (F_ord : Fld Z h0 a1 "java/lang/Enum" "ordinal" "I" (.int (4 : Int32))) :
    MetFree l (⟨"com/example/pesquisa/pesquisa/Measure", "score", "([II)D"⟩ : MethodName) (head1 (Jvm.Cond.code (⟨"com/example/pesquisa/pesquisa/Measure", "score", "([II)D"⟩ : MethodName) prog_6_method_5_code 5 (some .double) :: ws) ({ frames := 1, cells := 0, slots := 0, locals := 40 } : Room)) (fun a U => a = #[(.ref a1), (.ref a2), (.int p3)] ∧ Z.Warmed39 U.vm ∧ U.heap = h0) (fun _ _ _ _ _ => True) (fun _ U o U' => ∃ v L, o = .returned v ∧ QP (some (.double FP.dconst0)) h0 n0 v U'.heap L ∧ FrameEnd U o U' L ({ frames := 1, cells := 0, slots := 0, locals := 40 } : Room).cells ({ frames := 1, cells := 0, slots := 0, locals := 40 } : Room).slots) := by
  refine MetFree.of_bodySF (plainFor_of_name pn_3) hisR ?_
  intro p e s m args below meth c s₁ Bd hml0 hP hK
  obtain ⟨rfl, hZ, hh⟩ := hP
  have hx := Bd.exec
  have hby := Bd.bytes
  have hml : c.maxLocals = 5 := hml0
  have hown : s.vm.findClass "com/example/pesquisa/pesquisa/Measure" = some m.cls := findClass_of_methodNamed Bd.named
  have hnm := (name_of_methodNamed Bd.named Bd.method).1
  have X0 : Stand p l e ({ frames := 1, cells := 0, slots := 0, locals := 40 } : Room) s m #[(.ref a1), (.ref a2), (.int p3)] below meth c s₁ [] 0 0 := Stand.of_body Bd
  have e0 : s₁.heap = h0 := by rw [← hh, Bd.state]; rfl
  have N0 := Fr.nil n0
  have pre0 : ∀ t, Steps p.tables e below (s₁.setTop (mkF m 0 #[.val (.ref a1), .val (.ref a2), .val (.int p3), .unset, .unset] [])) t → Steps p.tables e below (s₁.setTop (entryFrame m #[(.ref a1), (.ref a2), (.int p3)] 5)) t := fun t k => castTop (ef_3 m a1 a2 p3) k
  obtain ⟨cq4, kq4, q4a, q4b, q4c⟩ := isOf hZ e0 E_a1
  obtain ⟨_, _, ⟨T4, L4, k4, n4⟩, -, X4, ⟨Lc4, hQ4, l4, y4, z4⟩, st4⟩ := X0.virtualBackUp hx (x := (⟨"com/example/pesquisa/pesquisa/Measure", "ordinal", "()I"⟩ : MethodName)) (y := (⟨"java/lang/Enum", "ordinal", "()I"⟩ : MethodName)) hown (mvT hZ (hw _ (List.mem_of_getElem? (i := 18) rfl))) (mvT hZ (hw _ (List.mem_of_getElem? (i := 19) rfl))) (mvT hZ (hw _ (List.mem_of_getElem? (i := 20) rfl))) (by decide) (mvT hZ (hw _ (List.mem_of_getElem? (i := 22) rfl))) (mvT hZ (hw _ (List.mem_of_getElem? (i := 21) rfl))) (backOf (W := 0) (rm4 l Z a0 hw [] a1 (4 : Int32) h0 n0 Z0 F_ord) hZ (hw _ (List.mem_of_getElem? (i := 24) rfl)) (hw _ (List.mem_of_getElem? (i := 23) rfl)) (by decide) (by decide)) q4a q4c (g := (mkF m 31 #[.val (.ref a1), .val (.ref a2), .val (.int p3), .val (.int (0 : Int32)), .val (.int (0 : Int32))] [(.ref a1)])) rfl (by rw [hml]; rfl) (Steps.refl _) (argsL := []) (rest := []) (lenOf pd_3_3 rfl) rfl (by show 2 * 0 + _ ≤ _; exact Nat.le_of_eq rfl) (hb hby d3_31) (fun _ _ => ⟨rfl, e0, (by decide : 0 + 0 ≤ _), (by decide : 0 + 0 ≤ _)⟩)
  dsimp only [Pt.U, Pt.locs, Pt.cells, Pt.slots] at X4 l4 y4 z4 st4 hQ4
  subst l4 y4 z4
  obtain ⟨rfl, N4q, eh4⟩ := hQ4
  have N4 := Fr.app N0 N4q
  obtain ⟨fs, hr, hrun, hended, hW, hsame⟩ := X4.leave (v := some (.double FP.dconst0)) (fun h => by rw [Bd.returns] at h; cases h)
  refine ⟨_, _, pre0 _ ?_, hrun, hended, _, _, rfl, ?_, ⟨_, rfl⟩, hW, hsame.mono (by decide) (by decide)⟩
  · show Steps p.tables e below (s₁.setTop (mkF m 0 #[.val (.ref a1), .val (.ref a2), .val (.int p3), .unset, .unset] [])) _
    refine XS.aloadN X0.here hx rfl (hb hby d3_0) rfl rfl ?_
    show Steps p.tables e below (s₁.setTop (mkF m 1 #[.val (.ref a1), .val (.ref a2), .val (.int p3), .unset, .unset] [(.ref a2)])) _
    refine X0.arraylength hx (by rw [e0]; exact Ar_a2.1) (State.isArrayOf_alike hZ.alike Ar_a2.2.1) (g := (mkF m 1 #[.val (.ref a1), .val (.ref a2), .val (.int p3), .unset, .unset] [(.ref a2)])) rfl rfl (hb hby d3_1) _ ?_
    rw [len_of S_a2 N_a2]
    show Steps p.tables e below (s₁.setTop (mkF m 2 #[.val (.ref a1), .val (.ref a2), .val (.int p3), .unset, .unset] [(.int z_a2)])) _
    refine XS.ifYes X0.here hx rfl (pc0 := 2) (pc' := 9) rfl (hb hby d3_2) rfl ((if0 _ _).trans (flt hc2).2.2.2) (by decide) (by decide) ?_
    show Steps p.tables e below (s₁.setTop (mkF m 9 #[.val (.ref a1), .val (.ref a2), .val (.int p3), .unset, .unset] [])) _
    refine XS.iconst X0.here hx rfl (hb hby d3_9) ?_
    show Steps p.tables e below (s₁.setTop (mkF m 10 #[.val (.ref a1), .val (.ref a2), .val (.int p3), .unset, .unset] [(.int (0 : Int32))])) _
    refine XS.istoreN X0.here hx rfl (hb hby d3_10) rfl (l' := #[.val (.ref a1), .val (.ref a2), .val (.int p3), .val (.int (0 : Int32)), .unset]) rfl ?_
    show Steps p.tables e below (s₁.setTop (mkF m 11 #[.val (.ref a1), .val (.ref a2), .val (.int p3), .val (.int (0 : Int32)), .unset] [])) _
    refine XS.iloadN X0.here hx rfl (hb hby d3_11) rfl ?_
    show Steps p.tables e below (s₁.setTop (mkF m 12 #[.val (.ref a1), .val (.ref a2), .val (.int p3), .val (.int (0 : Int32)), .unset] [(.int (0 : Int32))])) _
    refine XS.ifYes X0.here hx rfl (pc0 := 12) (pc' := 27) rfl (hb hby d3_12) rfl ((if0 _ _).trans (teq (by decide : (0 : Int32) = (0 : Int32))).1) (by decide) (by decide) ?_
    show Steps p.tables e below (s₁.setTop (mkF m 27 #[.val (.ref a1), .val (.ref a2), .val (.int p3), .val (.int (0 : Int32)), .unset] [])) _
    refine XS.iconst X0.here hx rfl (hb hby d3_27) ?_
    show Steps p.tables e below (s₁.setTop (mkF m 28 #[.val (.ref a1), .val (.ref a2), .val (.int p3), .val (.int (0 : Int32)), .unset] [(.int (0 : Int32))])) _
    refine XS.istore X0.here hx rfl (hb hby d3_28) rfl (l' := #[.val (.ref a1), .val (.ref a2), .val (.int p3), .val (.int (0 : Int32)), .val (.int (0 : Int32))]) rfl ?_
    show Steps p.tables e below (s₁.setTop (mkF m 30 #[.val (.ref a1), .val (.ref a2), .val (.int p3), .val (.int (0 : Int32)), .val (.int (0 : Int32))] [])) _
    refine XS.aloadN X0.here hx rfl (hb hby d3_30) rfl rfl ?_
    show Steps p.tables e below (s₁.setTop (mkF m 31 #[.val (.ref a1), .val (.ref a2), .val (.int p3), .val (.int (0 : Int32)), .val (.int (0 : Int32))] [(.ref a1)])) _
    refine st4.trans ?_
    show Steps p.tables e below (T4.setTop (mkF m 34 #[.val (.ref a1), .val (.ref a2), .val (.int p3), .val (.int (0 : Int32)), .val (.int (0 : Int32))] [(.int (4 : Int32))])) _
    refine XS.tswIn X4.here hx rfl (pc0 := 34) (pc' := 135) rfl (hb hby d3_34) rfl (by decide) rfl (by decide) (by decide) ?_
    show Steps p.tables e below (T4.setTop (mkF m 135 #[.val (.ref a1), .val (.ref a2), .val (.int p3), .val (.int (0 : Int32)), .val (.int (0 : Int32))] [])) _
    refine XS.iload X4.here hx rfl (hb hby d3_135) rfl ?_
    show Steps p.tables e below (T4.setTop (mkF m 137 #[.val (.ref a1), .val (.ref a2), .val (.int p3), .val (.int (0 : Int32)), .val (.int (0 : Int32))] [(.int (0 : Int32))])) _
    refine XS.ifYes X4.here hx rfl (pc0 := 137) (pc' := 144) rfl (hb hby d3_137) rfl ((if0 _ _).trans (teq (by decide : (0 : Int32) = (0 : Int32))).1) (by decide) (by decide) ?_
    show Steps p.tables e below (T4.setTop (mkF m 144 #[.val (.ref a1), .val (.ref a2), .val (.int p3), .val (.int (0 : Int32)), .val (.int (0 : Int32))] [])) _
    refine XS.dconst0 X4.here hx rfl (hb hby d3_144) rfl ?_
    show Steps p.tables e below (T4.setTop (mkF m 145 #[.val (.ref a1), .val (.ref a2), .val (.int p3), .val (.int (0 : Int32)), .val (.int (0 : Int32))] [(.double FP.dconst0)])) _
    exact retOut X4 hx Bd.returns rfl (Or.inr (Or.inr (Or.inl ⟨rfl, rfl, _, rfl⟩))) (hb hby d3_145) hr
  · show QP (some (.double FP.dconst0)) h0 n0 _ T4.heap _
    exact ⟨rfl, N4, eh4⟩
set_option maxRecDepth 65536 in
set_option maxHeartbeats 40000000 in
theorem rm3_4ft (l : Launch) (Z : State) (a0 : Array Value) (hw : ∀ d ∈ tables_1, d.before a0 Z = true) (ws : List Jvm.Cond) (a1 : Addr) (a2 : Addr) (p3 : Int32) (cl_a2 : Cell) (z_a2 : Int32) (w4 : Int32) (h0 : Heap) (n0 : Nat) (Z0 : n0 ≤ h0.size) (Ar_a2 : Arr Z h0 a2 cl_a2 .int) (S_a2 : cl_a2.slots.size = z_a2.toNatClampNeg) (N_a2 : ¬ z_a2 < 0) (hin17 : ¬ ((0 : Int32) < 0 ∨ cl_a2.slots.size ≤ ((0 : Int32)).toNatClampNeg)) (hat17 : cl_a2.slots[((0 : Int32)).toNatClampNeg]? = some (.int w4)) (E_a1 : Exa Z h0 a1 "com/example/pesquisa/pesquisa/Measure") (hc2 : (0 : Int32) < z_a2) (hc20 : (10 : Int32) < w4) (F_ord : Fld Z h0 a1 "java/lang/Enum" "ordinal" "I" (.int (4 : Int32))) :
    MetFree l (⟨"com/example/pesquisa/pesquisa/Measure", "score", "([II)D"⟩ : MethodName) (head1 (Jvm.Cond.code (⟨"com/example/pesquisa/pesquisa/Measure", "score", "([II)D"⟩ : MethodName) prog_6_method_5_code 5 (some .double) :: ws) ({ frames := 1, cells := 0, slots := 0, locals := 40 } : Room)) (fun a U => a = #[(.ref a1), (.ref a2), (.int p3)] ∧ Z.Warmed39 U.vm ∧ U.heap = h0) (fun _ _ _ _ _ => True) (fun _ U o U' => ∃ v L, o = .returned v ∧ QP (some (.double FP.dconst0)) h0 n0 v U'.heap L ∧ FrameEnd U o U' L ({ frames := 1, cells := 0, slots := 0, locals := 40 } : Room).cells ({ frames := 1, cells := 0, slots := 0, locals := 40 } : Room).slots) := by
  refine MetFree.of_bodySF (plainFor_of_name pn_3) hisR ?_
  intro p e s m args below meth c s₁ Bd hml0 hP hK
  obtain ⟨rfl, hZ, hh⟩ := hP
  have hx := Bd.exec
  have hby := Bd.bytes
  have hml : c.maxLocals = 5 := hml0
  have hown : s.vm.findClass "com/example/pesquisa/pesquisa/Measure" = some m.cls := findClass_of_methodNamed Bd.named
  have hnm := (name_of_methodNamed Bd.named Bd.method).1
  have X0 : Stand p l e ({ frames := 1, cells := 0, slots := 0, locals := 40 } : Room) s m #[(.ref a1), (.ref a2), (.int p3)] below meth c s₁ [] 0 0 := Stand.of_body Bd
  have e0 : s₁.heap = h0 := by rw [← hh, Bd.state]; rfl
  have N0 := Fr.nil n0
  have pre0 : ∀ t, Steps p.tables e below (s₁.setTop (mkF m 0 #[.val (.ref a1), .val (.ref a2), .val (.int p3), .unset, .unset] [])) t → Steps p.tables e below (s₁.setTop (entryFrame m #[(.ref a1), (.ref a2), (.int p3)] 5)) t := fun t k => castTop (ef_3 m a1 a2 p3) k
  obtain ⟨cq5, kq5, q5a, q5b, q5c⟩ := isOf hZ e0 E_a1
  obtain ⟨_, _, ⟨T5, L5, k5, n5⟩, -, X5, ⟨Lc5, hQ5, l5, y5, z5⟩, st5⟩ := X0.virtualBackUp hx (x := (⟨"com/example/pesquisa/pesquisa/Measure", "ordinal", "()I"⟩ : MethodName)) (y := (⟨"java/lang/Enum", "ordinal", "()I"⟩ : MethodName)) hown (mvT hZ (hw _ (List.mem_of_getElem? (i := 18) rfl))) (mvT hZ (hw _ (List.mem_of_getElem? (i := 19) rfl))) (mvT hZ (hw _ (List.mem_of_getElem? (i := 20) rfl))) (by decide) (mvT hZ (hw _ (List.mem_of_getElem? (i := 22) rfl))) (mvT hZ (hw _ (List.mem_of_getElem? (i := 21) rfl))) (backOf (W := 0) (rm4 l Z a0 hw [] a1 (4 : Int32) h0 n0 Z0 F_ord) hZ (hw _ (List.mem_of_getElem? (i := 24) rfl)) (hw _ (List.mem_of_getElem? (i := 23) rfl)) (by decide) (by decide)) q5a q5c (g := (mkF m 31 #[.val (.ref a1), .val (.ref a2), .val (.int p3), .val (.int (1 : Int32)), .val (.int (0 : Int32))] [(.ref a1)])) rfl (by rw [hml]; rfl) (Steps.refl _) (argsL := []) (rest := []) (lenOf pd_3_3 rfl) rfl (by show 2 * 0 + _ ≤ _; exact Nat.le_of_eq rfl) (hb hby d3_31) (fun _ _ => ⟨rfl, e0, (by decide : 0 + 0 ≤ _), (by decide : 0 + 0 ≤ _)⟩)
  dsimp only [Pt.U, Pt.locs, Pt.cells, Pt.slots] at X5 l5 y5 z5 st5 hQ5
  subst l5 y5 z5
  obtain ⟨rfl, N5q, eh5⟩ := hQ5
  have N5 := Fr.app N0 N5q
  obtain ⟨fs, hr, hrun, hended, hW, hsame⟩ := X5.leave (v := some (.double FP.dconst0)) (fun h => by rw [Bd.returns] at h; cases h)
  refine ⟨_, _, pre0 _ ?_, hrun, hended, _, _, rfl, ?_, ⟨_, rfl⟩, hW, hsame.mono (by decide) (by decide)⟩
  · show Steps p.tables e below (s₁.setTop (mkF m 0 #[.val (.ref a1), .val (.ref a2), .val (.int p3), .unset, .unset] [])) _
    refine XS.aloadN X0.here hx rfl (hb hby d3_0) rfl rfl ?_
    show Steps p.tables e below (s₁.setTop (mkF m 1 #[.val (.ref a1), .val (.ref a2), .val (.int p3), .unset, .unset] [(.ref a2)])) _
    refine X0.arraylength hx (by rw [e0]; exact Ar_a2.1) (State.isArrayOf_alike hZ.alike Ar_a2.2.1) (g := (mkF m 1 #[.val (.ref a1), .val (.ref a2), .val (.int p3), .unset, .unset] [(.ref a2)])) rfl rfl (hb hby d3_1) _ ?_
    rw [len_of S_a2 N_a2]
    show Steps p.tables e below (s₁.setTop (mkF m 2 #[.val (.ref a1), .val (.ref a2), .val (.int p3), .unset, .unset] [(.int z_a2)])) _
    refine XS.ifNo X0.here hx rfl (hb hby d3_2) rfl ((if0 _ _).trans (tlt hc2).2.2.2) ?_
    show Steps p.tables e below (s₁.setTop (mkF m 5 #[.val (.ref a1), .val (.ref a2), .val (.int p3), .unset, .unset] [])) _
    refine XS.iconst X0.here hx rfl (hb hby d3_5) ?_
    show Steps p.tables e below (s₁.setTop (mkF m 6 #[.val (.ref a1), .val (.ref a2), .val (.int p3), .unset, .unset] [(.int (1 : Int32))])) _
    refine XS.goto X0.here hx rfl (pc0 := 6) (pc' := 10) rfl (hb hby d3_6) (by decide) (by decide) ?_
    show Steps p.tables e below (s₁.setTop (mkF m 10 #[.val (.ref a1), .val (.ref a2), .val (.int p3), .unset, .unset] [(.int (1 : Int32))])) _
    refine XS.istoreN X0.here hx rfl (hb hby d3_10) rfl (l' := #[.val (.ref a1), .val (.ref a2), .val (.int p3), .val (.int (1 : Int32)), .unset]) rfl ?_
    show Steps p.tables e below (s₁.setTop (mkF m 11 #[.val (.ref a1), .val (.ref a2), .val (.int p3), .val (.int (1 : Int32)), .unset] [])) _
    refine XS.iloadN X0.here hx rfl (hb hby d3_11) rfl ?_
    show Steps p.tables e below (s₁.setTop (mkF m 12 #[.val (.ref a1), .val (.ref a2), .val (.int p3), .val (.int (1 : Int32)), .unset] [(.int (1 : Int32))])) _
    refine XS.ifNo X0.here hx rfl (hb hby d3_12) rfl ((if0 _ _).trans (feq (by decide : ¬ ((1 : Int32) = (0 : Int32)))).1) ?_
    show Steps p.tables e below (s₁.setTop (mkF m 15 #[.val (.ref a1), .val (.ref a2), .val (.int p3), .val (.int (1 : Int32)), .unset] [])) _
    refine XS.aloadN X0.here hx rfl (hb hby d3_15) rfl rfl ?_
    show Steps p.tables e below (s₁.setTop (mkF m 16 #[.val (.ref a1), .val (.ref a2), .val (.int p3), .val (.int (1 : Int32)), .unset] [(.ref a2)])) _
    refine XS.iconst X0.here hx rfl (hb hby d3_16) ?_
    show Steps p.tables e below (s₁.setTop (mkF m 17 #[.val (.ref a1), .val (.ref a2), .val (.int p3), .val (.int (1 : Int32)), .unset] [(.int (0 : Int32)), (.ref a2)])) _
    refine X0.iaload hx (j := (0 : Int32)) (v := (.int w4)) (by rw [e0]; exact Ar_a2.1) (State.isArrayOf_alike hZ.alike Ar_a2.2.1) Ar_a2.2.2 hin17 hat17 (g := (mkF m 17 #[.val (.ref a1), .val (.ref a2), .val (.int p3), .val (.int (1 : Int32)), .unset] [(.int (0 : Int32)), (.ref a2)])) rfl rfl (hb hby d3_17) _ ?_
    show Steps p.tables e below (s₁.setTop (mkF m 18 #[.val (.ref a1), .val (.ref a2), .val (.int p3), .val (.int (1 : Int32)), .unset] [(.int w4)])) _
    refine XS.bipush X0.here hx rfl (hb hby d3_18) ?_
    show Steps p.tables e below (s₁.setTop (mkF m 20 #[.val (.ref a1), .val (.ref a2), .val (.int p3), .val (.int (1 : Int32)), .unset] [(.int (10 : Int32)), (.int w4)])) _
    refine XS.icmpYes X0.here hx rfl (pc0 := 20) (pc' := 27) rfl (hb hby d3_20) rfl (tlt hc20).2.2.1 (by decide) (by decide) ?_
    show Steps p.tables e below (s₁.setTop (mkF m 27 #[.val (.ref a1), .val (.ref a2), .val (.int p3), .val (.int (1 : Int32)), .unset] [])) _
    refine XS.iconst X0.here hx rfl (hb hby d3_27) ?_
    show Steps p.tables e below (s₁.setTop (mkF m 28 #[.val (.ref a1), .val (.ref a2), .val (.int p3), .val (.int (1 : Int32)), .unset] [(.int (0 : Int32))])) _
    refine XS.istore X0.here hx rfl (hb hby d3_28) rfl (l' := #[.val (.ref a1), .val (.ref a2), .val (.int p3), .val (.int (1 : Int32)), .val (.int (0 : Int32))]) rfl ?_
    show Steps p.tables e below (s₁.setTop (mkF m 30 #[.val (.ref a1), .val (.ref a2), .val (.int p3), .val (.int (1 : Int32)), .val (.int (0 : Int32))] [])) _
    refine XS.aloadN X0.here hx rfl (hb hby d3_30) rfl rfl ?_
    show Steps p.tables e below (s₁.setTop (mkF m 31 #[.val (.ref a1), .val (.ref a2), .val (.int p3), .val (.int (1 : Int32)), .val (.int (0 : Int32))] [(.ref a1)])) _
    refine st5.trans ?_
    show Steps p.tables e below (T5.setTop (mkF m 34 #[.val (.ref a1), .val (.ref a2), .val (.int p3), .val (.int (1 : Int32)), .val (.int (0 : Int32))] [(.int (4 : Int32))])) _
    refine XS.tswIn X5.here hx rfl (pc0 := 34) (pc' := 135) rfl (hb hby d3_34) rfl (by decide) rfl (by decide) (by decide) ?_
    show Steps p.tables e below (T5.setTop (mkF m 135 #[.val (.ref a1), .val (.ref a2), .val (.int p3), .val (.int (1 : Int32)), .val (.int (0 : Int32))] [])) _
    refine XS.iload X5.here hx rfl (hb hby d3_135) rfl ?_
    show Steps p.tables e below (T5.setTop (mkF m 137 #[.val (.ref a1), .val (.ref a2), .val (.int p3), .val (.int (1 : Int32)), .val (.int (0 : Int32))] [(.int (0 : Int32))])) _
    refine XS.ifYes X5.here hx rfl (pc0 := 137) (pc' := 144) rfl (hb hby d3_137) rfl ((if0 _ _).trans (teq (by decide : (0 : Int32) = (0 : Int32))).1) (by decide) (by decide) ?_
    show Steps p.tables e below (T5.setTop (mkF m 144 #[.val (.ref a1), .val (.ref a2), .val (.int p3), .val (.int (1 : Int32)), .val (.int (0 : Int32))] [])) _
    refine XS.dconst0 X5.here hx rfl (hb hby d3_144) rfl ?_
    show Steps p.tables e below (T5.setTop (mkF m 145 #[.val (.ref a1), .val (.ref a2), .val (.int p3), .val (.int (1 : Int32)), .val (.int (0 : Int32))] [(.double FP.dconst0)])) _
    exact retOut X5 hx Bd.returns rfl (Or.inr (Or.inr (Or.inl ⟨rfl, rfl, _, rfl⟩))) (hb hby d3_145) hr
  · show QP (some (.double FP.dconst0)) h0 n0 _ T5.heap _
    exact ⟨rfl, N5, eh5⟩
theorem d3_140 : decode prog_6_method_5_code 140 = .ok (.dconst 1, 1) := by decide +kernel
theorem d3_141 : decode prog_6_method_5_code 141 = .ok (.goto 4, 3) := by decide +kernel
set_option maxRecDepth 65536 in
set_option maxHeartbeats 40000000 in
theorem rm3_4ff (l : Launch) (Z : State) (a0 : Array Value) (hw : ∀ d ∈ tables_1, d.before a0 Z = true) (ws : List Jvm.Cond) (a1 : Addr) (a2 : Addr) (p3 : Int32) (cl_a2 : Cell) (z_a2 : Int32) (w4 : Int32) (h0 : Heap) (n0 : Nat) (Z0 : n0 ≤ h0.size) (Ar_a2 : Arr Z h0 a2 cl_a2 .int) (S_a2 : cl_a2.slots.size = z_a2.toNatClampNeg) (N_a2 : ¬ z_a2 < 0) (hin17 : ¬ ((0 : Int32) < 0 ∨ cl_a2.slots.size ≤ ((0 : Int32)).toNatClampNeg)) (hat17 : cl_a2.slots[((0 : Int32)).toNatClampNeg]? = some (.int w4)) (E_a1 : Exa Z h0 a1 "com/example/pesquisa/pesquisa/Measure") (hc2 : (0 : Int32) < z_a2) (hc20 : ¬ ((10 : Int32) < w4)) (F_ord : Fld Z h0 a1 "java/lang/Enum" "ordinal" "I" (.int (4 : Int32))) :
    MetFree l (⟨"com/example/pesquisa/pesquisa/Measure", "score", "([II)D"⟩ : MethodName) (head1 (Jvm.Cond.code (⟨"com/example/pesquisa/pesquisa/Measure", "score", "([II)D"⟩ : MethodName) prog_6_method_5_code 5 (some .double) :: ws) ({ frames := 1, cells := 0, slots := 0, locals := 40 } : Room)) (fun a U => a = #[(.ref a1), (.ref a2), (.int p3)] ∧ Z.Warmed39 U.vm ∧ U.heap = h0) (fun _ _ _ _ _ => True) (fun _ U o U' => ∃ v L, o = .returned v ∧ QP (some (.double FP.dconst1)) h0 n0 v U'.heap L ∧ FrameEnd U o U' L ({ frames := 1, cells := 0, slots := 0, locals := 40 } : Room).cells ({ frames := 1, cells := 0, slots := 0, locals := 40 } : Room).slots) := by
  refine MetFree.of_bodySF (plainFor_of_name pn_3) hisR ?_
  intro p e s m args below meth c s₁ Bd hml0 hP hK
  obtain ⟨rfl, hZ, hh⟩ := hP
  have hx := Bd.exec
  have hby := Bd.bytes
  have hml : c.maxLocals = 5 := hml0
  have hown : s.vm.findClass "com/example/pesquisa/pesquisa/Measure" = some m.cls := findClass_of_methodNamed Bd.named
  have hnm := (name_of_methodNamed Bd.named Bd.method).1
  have X0 : Stand p l e ({ frames := 1, cells := 0, slots := 0, locals := 40 } : Room) s m #[(.ref a1), (.ref a2), (.int p3)] below meth c s₁ [] 0 0 := Stand.of_body Bd
  have e0 : s₁.heap = h0 := by rw [← hh, Bd.state]; rfl
  have N0 := Fr.nil n0
  have pre0 : ∀ t, Steps p.tables e below (s₁.setTop (mkF m 0 #[.val (.ref a1), .val (.ref a2), .val (.int p3), .unset, .unset] [])) t → Steps p.tables e below (s₁.setTop (entryFrame m #[(.ref a1), (.ref a2), (.int p3)] 5)) t := fun t k => castTop (ef_3 m a1 a2 p3) k
  obtain ⟨cq5, kq5, q5a, q5b, q5c⟩ := isOf hZ e0 E_a1
  obtain ⟨_, _, ⟨T5, L5, k5, n5⟩, -, X5, ⟨Lc5, hQ5, l5, y5, z5⟩, st5⟩ := X0.virtualBackUp hx (x := (⟨"com/example/pesquisa/pesquisa/Measure", "ordinal", "()I"⟩ : MethodName)) (y := (⟨"java/lang/Enum", "ordinal", "()I"⟩ : MethodName)) hown (mvT hZ (hw _ (List.mem_of_getElem? (i := 18) rfl))) (mvT hZ (hw _ (List.mem_of_getElem? (i := 19) rfl))) (mvT hZ (hw _ (List.mem_of_getElem? (i := 20) rfl))) (by decide) (mvT hZ (hw _ (List.mem_of_getElem? (i := 22) rfl))) (mvT hZ (hw _ (List.mem_of_getElem? (i := 21) rfl))) (backOf (W := 0) (rm4 l Z a0 hw [] a1 (4 : Int32) h0 n0 Z0 F_ord) hZ (hw _ (List.mem_of_getElem? (i := 24) rfl)) (hw _ (List.mem_of_getElem? (i := 23) rfl)) (by decide) (by decide)) q5a q5c (g := (mkF m 31 #[.val (.ref a1), .val (.ref a2), .val (.int p3), .val (.int (1 : Int32)), .val (.int (1 : Int32))] [(.ref a1)])) rfl (by rw [hml]; rfl) (Steps.refl _) (argsL := []) (rest := []) (lenOf pd_3_3 rfl) rfl (by show 2 * 0 + _ ≤ _; exact Nat.le_of_eq rfl) (hb hby d3_31) (fun _ _ => ⟨rfl, e0, (by decide : 0 + 0 ≤ _), (by decide : 0 + 0 ≤ _)⟩)
  dsimp only [Pt.U, Pt.locs, Pt.cells, Pt.slots] at X5 l5 y5 z5 st5 hQ5
  subst l5 y5 z5
  obtain ⟨rfl, N5q, eh5⟩ := hQ5
  have N5 := Fr.app N0 N5q
  obtain ⟨fs, hr, hrun, hended, hW, hsame⟩ := X5.leave (v := some (.double FP.dconst1)) (fun h => by rw [Bd.returns] at h; cases h)
  refine ⟨_, _, pre0 _ ?_, hrun, hended, _, _, rfl, ?_, ⟨_, rfl⟩, hW, hsame.mono (by decide) (by decide)⟩
  · show Steps p.tables e below (s₁.setTop (mkF m 0 #[.val (.ref a1), .val (.ref a2), .val (.int p3), .unset, .unset] [])) _
    refine XS.aloadN X0.here hx rfl (hb hby d3_0) rfl rfl ?_
    show Steps p.tables e below (s₁.setTop (mkF m 1 #[.val (.ref a1), .val (.ref a2), .val (.int p3), .unset, .unset] [(.ref a2)])) _
    refine X0.arraylength hx (by rw [e0]; exact Ar_a2.1) (State.isArrayOf_alike hZ.alike Ar_a2.2.1) (g := (mkF m 1 #[.val (.ref a1), .val (.ref a2), .val (.int p3), .unset, .unset] [(.ref a2)])) rfl rfl (hb hby d3_1) _ ?_
    rw [len_of S_a2 N_a2]
    show Steps p.tables e below (s₁.setTop (mkF m 2 #[.val (.ref a1), .val (.ref a2), .val (.int p3), .unset, .unset] [(.int z_a2)])) _
    refine XS.ifNo X0.here hx rfl (hb hby d3_2) rfl ((if0 _ _).trans (tlt hc2).2.2.2) ?_
    show Steps p.tables e below (s₁.setTop (mkF m 5 #[.val (.ref a1), .val (.ref a2), .val (.int p3), .unset, .unset] [])) _
    refine XS.iconst X0.here hx rfl (hb hby d3_5) ?_
    show Steps p.tables e below (s₁.setTop (mkF m 6 #[.val (.ref a1), .val (.ref a2), .val (.int p3), .unset, .unset] [(.int (1 : Int32))])) _
    refine XS.goto X0.here hx rfl (pc0 := 6) (pc' := 10) rfl (hb hby d3_6) (by decide) (by decide) ?_
    show Steps p.tables e below (s₁.setTop (mkF m 10 #[.val (.ref a1), .val (.ref a2), .val (.int p3), .unset, .unset] [(.int (1 : Int32))])) _
    refine XS.istoreN X0.here hx rfl (hb hby d3_10) rfl (l' := #[.val (.ref a1), .val (.ref a2), .val (.int p3), .val (.int (1 : Int32)), .unset]) rfl ?_
    show Steps p.tables e below (s₁.setTop (mkF m 11 #[.val (.ref a1), .val (.ref a2), .val (.int p3), .val (.int (1 : Int32)), .unset] [])) _
    refine XS.iloadN X0.here hx rfl (hb hby d3_11) rfl ?_
    show Steps p.tables e below (s₁.setTop (mkF m 12 #[.val (.ref a1), .val (.ref a2), .val (.int p3), .val (.int (1 : Int32)), .unset] [(.int (1 : Int32))])) _
    refine XS.ifNo X0.here hx rfl (hb hby d3_12) rfl ((if0 _ _).trans (feq (by decide : ¬ ((1 : Int32) = (0 : Int32)))).1) ?_
    show Steps p.tables e below (s₁.setTop (mkF m 15 #[.val (.ref a1), .val (.ref a2), .val (.int p3), .val (.int (1 : Int32)), .unset] [])) _
    refine XS.aloadN X0.here hx rfl (hb hby d3_15) rfl rfl ?_
    show Steps p.tables e below (s₁.setTop (mkF m 16 #[.val (.ref a1), .val (.ref a2), .val (.int p3), .val (.int (1 : Int32)), .unset] [(.ref a2)])) _
    refine XS.iconst X0.here hx rfl (hb hby d3_16) ?_
    show Steps p.tables e below (s₁.setTop (mkF m 17 #[.val (.ref a1), .val (.ref a2), .val (.int p3), .val (.int (1 : Int32)), .unset] [(.int (0 : Int32)), (.ref a2)])) _
    refine X0.iaload hx (j := (0 : Int32)) (v := (.int w4)) (by rw [e0]; exact Ar_a2.1) (State.isArrayOf_alike hZ.alike Ar_a2.2.1) Ar_a2.2.2 hin17 hat17 (g := (mkF m 17 #[.val (.ref a1), .val (.ref a2), .val (.int p3), .val (.int (1 : Int32)), .unset] [(.int (0 : Int32)), (.ref a2)])) rfl rfl (hb hby d3_17) _ ?_
    show Steps p.tables e below (s₁.setTop (mkF m 18 #[.val (.ref a1), .val (.ref a2), .val (.int p3), .val (.int (1 : Int32)), .unset] [(.int w4)])) _
    refine XS.bipush X0.here hx rfl (hb hby d3_18) ?_
    show Steps p.tables e below (s₁.setTop (mkF m 20 #[.val (.ref a1), .val (.ref a2), .val (.int p3), .val (.int (1 : Int32)), .unset] [(.int (10 : Int32)), (.int w4)])) _
    refine XS.icmpNo X0.here hx rfl (hb hby d3_20) rfl (flt hc20).2.2.1 ?_
    show Steps p.tables e below (s₁.setTop (mkF m 23 #[.val (.ref a1), .val (.ref a2), .val (.int p3), .val (.int (1 : Int32)), .unset] [])) _
    refine XS.iconst X0.here hx rfl (hb hby d3_23) ?_
    show Steps p.tables e below (s₁.setTop (mkF m 24 #[.val (.ref a1), .val (.ref a2), .val (.int p3), .val (.int (1 : Int32)), .unset] [(.int (1 : Int32))])) _
    refine XS.goto X0.here hx rfl (pc0 := 24) (pc' := 28) rfl (hb hby d3_24) (by decide) (by decide) ?_
    show Steps p.tables e below (s₁.setTop (mkF m 28 #[.val (.ref a1), .val (.ref a2), .val (.int p3), .val (.int (1 : Int32)), .unset] [(.int (1 : Int32))])) _
    refine XS.istore X0.here hx rfl (hb hby d3_28) rfl (l' := #[.val (.ref a1), .val (.ref a2), .val (.int p3), .val (.int (1 : Int32)), .val (.int (1 : Int32))]) rfl ?_
    show Steps p.tables e below (s₁.setTop (mkF m 30 #[.val (.ref a1), .val (.ref a2), .val (.int p3), .val (.int (1 : Int32)), .val (.int (1 : Int32))] [])) _
    refine XS.aloadN X0.here hx rfl (hb hby d3_30) rfl rfl ?_
    show Steps p.tables e below (s₁.setTop (mkF m 31 #[.val (.ref a1), .val (.ref a2), .val (.int p3), .val (.int (1 : Int32)), .val (.int (1 : Int32))] [(.ref a1)])) _
    refine st5.trans ?_
    show Steps p.tables e below (T5.setTop (mkF m 34 #[.val (.ref a1), .val (.ref a2), .val (.int p3), .val (.int (1 : Int32)), .val (.int (1 : Int32))] [(.int (4 : Int32))])) _
    refine XS.tswIn X5.here hx rfl (pc0 := 34) (pc' := 135) rfl (hb hby d3_34) rfl (by decide) rfl (by decide) (by decide) ?_
    show Steps p.tables e below (T5.setTop (mkF m 135 #[.val (.ref a1), .val (.ref a2), .val (.int p3), .val (.int (1 : Int32)), .val (.int (1 : Int32))] [])) _
    refine XS.iload X5.here hx rfl (hb hby d3_135) rfl ?_
    show Steps p.tables e below (T5.setTop (mkF m 137 #[.val (.ref a1), .val (.ref a2), .val (.int p3), .val (.int (1 : Int32)), .val (.int (1 : Int32))] [(.int (1 : Int32))])) _
    refine XS.ifNo X5.here hx rfl (hb hby d3_137) rfl ((if0 _ _).trans (feq (by decide : ¬ ((1 : Int32) = (0 : Int32)))).1) ?_
    show Steps p.tables e below (T5.setTop (mkF m 140 #[.val (.ref a1), .val (.ref a2), .val (.int p3), .val (.int (1 : Int32)), .val (.int (1 : Int32))] [])) _
    refine XS.dconst1 X5.here hx rfl (hb hby d3_140) rfl ?_
    show Steps p.tables e below (T5.setTop (mkF m 141 #[.val (.ref a1), .val (.ref a2), .val (.int p3), .val (.int (1 : Int32)), .val (.int (1 : Int32))] [(.double FP.dconst1)])) _
    refine XS.goto X5.here hx rfl (pc0 := 141) (pc' := 145) rfl (hb hby d3_141) (by decide) (by decide) ?_
    show Steps p.tables e below (T5.setTop (mkF m 145 #[.val (.ref a1), .val (.ref a2), .val (.int p3), .val (.int (1 : Int32)), .val (.int (1 : Int32))] [(.double FP.dconst1)])) _
    exact retOut X5 hx Bd.returns rfl (Or.inr (Or.inr (Or.inl ⟨rfl, rfl, _, rfl⟩))) (hb hby d3_145) hr
  · show QP (some (.double FP.dconst1)) h0 n0 _ T5.heap _
    exact ⟨rfl, N5, eh5⟩
def RK (n : Nat) (c : Cell) (r0 r1 r2 : Int32) : Prop := c.slots.size = n ∧ (0 < n → c.slots[0]? = some (.int r0)) ∧ (1 < n → c.slots[1]? = some (.int r1)) ∧ (2 < n → c.slots[2]? = some (.int r2))
theorem own_sta0 {Z : State} {h h' : Heap} {C n d : String} {v : Value} (S : Sta Z h C n d v) (K : Keep h h' []) : Sta Z h' C n d v := by
  obtain ⟨cf, i, k, f, st, cell, h1, h2, h3, h4, h5, h6, h7⟩ := S
  exact ⟨cf, i, k, f, st, cell, h1, h2, h3, h4, K.2.1 st cell h5 (by simp), h6, h7⟩
def Goes (p : Program) (l : Launch) (e : Env) (s : State) (m : MethodId) (args : Array Value) (below : List Frame) (meth : Method) (c : Code) (n0 : Nat) (T0 : State) (f : JFrame) : Prop :=
  ∃ (T' : State) (locs' : List Loc) (ce sl : Nat) (L' : Array Slot), Stand p l e ({ frames := 5, cells := 16, slots := 128, locals := 128 } : Room) s m args below meth c T' locs' ce sl ∧ ce ≤ 16 ∧ sl ≤ 128 ∧ Fr n0 locs' ∧ ∀ target, Steps p.tables e below (T'.setTop (mkF m 410 L' [.int (1 : Int32)])) target → Steps p.tables e below (T0.setTop f) target
theorem pd_0_0 : parseMethodDescriptor "(I)I" = some ⟨[.int], some .int⟩ := by decide +kernel
theorem pd_0_1 : parseMethodDescriptor "(II)I" = some ⟨[.int, .int], some .int⟩ := by decide +kernel
set_option maxRecDepth 65536 in
set_option maxHeartbeats 40000000 in
theorem s1_0 {p : Program} {l : Launch} {e : Env} {s : State} {m : MethodId} {args : Array Value} {below : List Frame} {meth : Method} {c : Code} {T0 : State} {Z : State} {a0 : Array Value} {h0 : Heap} (n0 : Nat) (Z0 : n0 ≤ h0.size) (i0 : Int32) (i1 : Int32) (i2 : Int32) (i3 : Int32) (i4 : Int32) (kk6 : Int32) (kk21 : Int32) (kk32 : Int32) (kk43 : Int32) (kk57 : Int32)
    (X0 : Stand p l e ({ frames := 5, cells := 16, slots := 128, locals := 128 } : Room) s m args below meth c T0 [] 0 0) (hx : p.tables.exec = Jvm.exec) (hZ : Z.Warmed39 s.vm) (hw : ∀ d ∈ tables_1, d.before a0 Z = true) (hby : c.code = code) (hml : c.maxLocals = 20) (hown : s.vm.findClass "com/example/pesquisa/pesquisa/MeasureScorePinLaw" = some m.cls) (e0 : T0.heap = h0) (hk6 : ((i0 &&& (7 : Int32)) % (5 : Int32)) = kk6) (hk13 : (((i0.toUInt32 >>> ((3 : Int32) &&& 31).toUInt32).toInt32) &&& (3 : Int32)) = (0 : Int32)) (hk21 : ((1 : Int32) + (F1 i1)) = kk21) (hk32 : ((kk21 + (1 : Int32)) + (F1 i2)) = kk32) (hk43 : ((kk32 + (1 : Int32)) + (F1 i3)) = kk43) (hk57 : ((F2 (0 : Int32) (1 : Int32)) + (i4 &&& (1073741823 : Int32))) = kk57) :
    ∃ (T' : State) (h' : Heap) (locs' : List Loc) (b : Addr) (cl_ : Cell), Stand p l e ({ frames := 5, cells := 16, slots := 128, locals := 128 } : Room) s m args below meth c T' locs' 1 0 ∧ T'.heap = h' ∧ (Fr n0 locs' ∧ Keep h0 h' [] ∧ Arr Z h' b cl_ .int ∧ RK 0 cl_ kk21 kk32 kk43) ∧
      ∀ target, Steps p.tables e below (T'.setTop (mkF m 100 #[.val (.int i0), .val (.int i1), .val (.int i2), .val (.int i3), .val (.int i4), .val (.int kk6), .val (.int (0 : Int32)), .val (.int kk21), .val (.int kk32), .val (.int kk43), .val (.int kk57), .val (.ref b), .unset, .unset, .unset, .unset, .unset, .unset, .unset, .unset] [])) target → Steps p.tables e below (T0.setTop (mkF m 0 #[.val (.int i0), .val (.int i1), .val (.int i2), .val (.int i3), .val (.int i4), .unset, .unset, .unset, .unset, .unset, .unset, .unset, .unset, .unset, .unset, .unset, .unset, .unset, .unset, .unset] [])) target := by
  have N0 := Fr.nil n0
  obtain ⟨_, _, ⟨T6, L6, k6, n6⟩, -, X6, ⟨Lc6, hQ6, l6, y6, z6⟩, st6⟩ := Jvm.LawKit.callS X0 hx (y := (⟨"com/example/pesquisa/pesquisa/MeasureScorePinLaw", "gap", "(I)I"⟩ : MethodName)) hown (mvT hZ (hw _ (List.mem_of_getElem? (i := 0) rfl))) (mvT hZ (hw _ (List.mem_of_getElem? (i := 1) rfl))) (mvT hZ (hw _ (List.mem_of_getElem? (i := 2) rfl))) (mvT hZ (hw _ (List.mem_of_getElem? (i := 3) rfl))) (by decide) (backOf (W := 1) (rm1 l Z a0 hw [] i1 h0 n0 Z0) hZ (hw _ (List.mem_of_getElem? (i := 3) rfl)) (hw _ (List.mem_of_getElem? (i := 2) rfl)) (by decide) (by decide)) (g := (mkF m 17 #[.val (.int i0), .val (.int i1), .val (.int i2), .val (.int i3), .val (.int i4), .val (.int kk6), .val (.int (0 : Int32)), .unset, .unset, .unset, .unset, .unset, .unset, .unset, .unset, .unset, .unset, .unset, .unset, .unset] [(.int i1), (.int (1 : Int32))])) rfl (by rw [hml]; rfl) (argsL := [(.int i1)]) (rest := [(.int (1 : Int32))]) (lenOf pd_0_0 rfl) rfl (by show 2 * 0 + _ ≤ _; exact Nat.le_of_eq rfl) (hb hby at_17) (fun _ _ => ⟨rfl, e0, (by decide : 0 + 0 ≤ _), (by decide : 0 + 0 ≤ _)⟩)
  dsimp only [Pt.U, Pt.locs, Pt.cells, Pt.slots] at X6 l6 y6 z6 st6 hQ6
  subst l6 y6 z6
  obtain ⟨rfl, N6q, eh6⟩ := hQ6
  have K6c : Keep h0 T6.heap [] := by rw [eh6]; exact Keep.refl _ _
  have Z6 : n0 ≤ T6.heap.size := Nat.le_trans Z0 K6c.1
  have N6 := Fr.app N0 N6q
  obtain ⟨_, _, ⟨T7, L7, k7, n7⟩, -, X7, ⟨Lc7, hQ7, l7, y7, z7⟩, st7⟩ := Jvm.LawKit.callS X6 hx (y := (⟨"com/example/pesquisa/pesquisa/MeasureScorePinLaw", "gap", "(I)I"⟩ : MethodName)) hown (mvT hZ (hw _ (List.mem_of_getElem? (i := 0) rfl))) (mvT hZ (hw _ (List.mem_of_getElem? (i := 1) rfl))) (mvT hZ (hw _ (List.mem_of_getElem? (i := 2) rfl))) (mvT hZ (hw _ (List.mem_of_getElem? (i := 3) rfl))) (by decide) (backOf (W := 1) (rm1 l Z a0 hw [] i2 T6.heap n0 Z6) hZ (hw _ (List.mem_of_getElem? (i := 3) rfl)) (hw _ (List.mem_of_getElem? (i := 2) rfl)) (by decide) (by decide)) (g := (mkF m 28 #[.val (.int i0), .val (.int i1), .val (.int i2), .val (.int i3), .val (.int i4), .val (.int kk6), .val (.int (0 : Int32)), .val (.int kk21), .unset, .unset, .unset, .unset, .unset, .unset, .unset, .unset, .unset, .unset, .unset, .unset] [(.int i2), (.int (kk21 + (1 : Int32)))])) rfl (by rw [hml]; rfl) (argsL := [(.int i2)]) (rest := [(.int (kk21 + (1 : Int32)))]) (lenOf pd_0_0 rfl) rfl (by show 2 * 0 + _ ≤ _; exact Nat.le_of_eq rfl) (hb hby at_28) (fun _ _ => ⟨rfl, rfl, (by decide : 0 + 0 ≤ _), (by decide : 0 + 0 ≤ _)⟩)
  dsimp only [Pt.U, Pt.locs, Pt.cells, Pt.slots] at X7 l7 y7 z7 st7 hQ7
  subst l7 y7 z7
  obtain ⟨rfl, N7q, eh7⟩ := hQ7
  have K7c : Keep T6.heap T7.heap [] := by rw [eh7]; exact Keep.refl _ _
  have Z7 : n0 ≤ T7.heap.size := Nat.le_trans Z6 K7c.1
  have N7 := Fr.app N6 N7q
  obtain ⟨_, _, ⟨T8, L8, k8, n8⟩, -, X8, ⟨Lc8, hQ8, l8, y8, z8⟩, st8⟩ := Jvm.LawKit.callS X7 hx (y := (⟨"com/example/pesquisa/pesquisa/MeasureScorePinLaw", "gap", "(I)I"⟩ : MethodName)) hown (mvT hZ (hw _ (List.mem_of_getElem? (i := 0) rfl))) (mvT hZ (hw _ (List.mem_of_getElem? (i := 1) rfl))) (mvT hZ (hw _ (List.mem_of_getElem? (i := 2) rfl))) (mvT hZ (hw _ (List.mem_of_getElem? (i := 3) rfl))) (by decide) (backOf (W := 1) (rm1 l Z a0 hw [] i3 T7.heap n0 Z7) hZ (hw _ (List.mem_of_getElem? (i := 3) rfl)) (hw _ (List.mem_of_getElem? (i := 2) rfl)) (by decide) (by decide)) (g := (mkF m 39 #[.val (.int i0), .val (.int i1), .val (.int i2), .val (.int i3), .val (.int i4), .val (.int kk6), .val (.int (0 : Int32)), .val (.int kk21), .val (.int kk32), .unset, .unset, .unset, .unset, .unset, .unset, .unset, .unset, .unset, .unset, .unset] [(.int i3), (.int (kk32 + (1 : Int32)))])) rfl (by rw [hml]; rfl) (argsL := [(.int i3)]) (rest := [(.int (kk32 + (1 : Int32)))]) (lenOf pd_0_0 rfl) rfl (by show 2 * 0 + _ ≤ _; exact Nat.le_of_eq rfl) (hb hby at_39) (fun _ _ => ⟨rfl, rfl, (by decide : 0 + 0 ≤ _), (by decide : 0 + 0 ≤ _)⟩)
  dsimp only [Pt.U, Pt.locs, Pt.cells, Pt.slots] at X8 l8 y8 z8 st8 hQ8
  subst l8 y8 z8
  obtain ⟨rfl, N8q, eh8⟩ := hQ8
  have K8c : Keep T7.heap T8.heap [] := by rw [eh8]; exact Keep.refl _ _
  have Z8 : n0 ≤ T8.heap.size := Nat.le_trans Z7 K8c.1
  have N8 := Fr.app N7 N8q
  obtain ⟨_, _, ⟨T9, L9, k9, n9⟩, -, X9, ⟨Lc9, hQ9, l9, y9, z9⟩, st9⟩ := Jvm.LawKit.callS X8 hx (y := (⟨"java/lang/Math", "max", "(II)I"⟩ : MethodName)) hown (mvT hZ (hw _ (List.mem_of_getElem? (i := 4) rfl))) (mvT hZ (hw _ (List.mem_of_getElem? (i := 5) rfl))) (mvT hZ (hw _ (List.mem_of_getElem? (i := 6) rfl))) (mvT hZ (hw _ (List.mem_of_getElem? (i := 7) rfl))) (by decide) (backOf (W := 0) (rm2 l Z a0 hw [] (0 : Int32) (1 : Int32) T8.heap n0 Z8) hZ (hw _ (List.mem_of_getElem? (i := 7) rfl)) (hw _ (List.mem_of_getElem? (i := 6) rfl)) (by decide) (by decide)) (g := (mkF m 48 #[.val (.int i0), .val (.int i1), .val (.int i2), .val (.int i3), .val (.int i4), .val (.int kk6), .val (.int (0 : Int32)), .val (.int kk21), .val (.int kk32), .val (.int kk43), .unset, .unset, .unset, .unset, .unset, .unset, .unset, .unset, .unset, .unset] [(.int (1 : Int32)), (.int (0 : Int32))])) rfl (by rw [hml]; rfl) (argsL := [(.int (0 : Int32)), (.int (1 : Int32))]) (rest := []) (lenOf pd_0_1 rfl) rfl (by show 2 * 0 + _ ≤ _; exact Nat.le_of_eq rfl) (hb hby at_48) (fun _ _ => ⟨rfl, rfl, (by decide : 0 + 0 ≤ _), (by decide : 0 + 0 ≤ _)⟩)
  dsimp only [Pt.U, Pt.locs, Pt.cells, Pt.slots] at X9 l9 y9 z9 st9 hQ9
  subst l9 y9 z9
  obtain ⟨rfl, N9q, eh9⟩ := hQ9
  have K9c : Keep T8.heap T9.heap [] := by rw [eh9]; exact Keep.refl _ _
  have Z9 : n0 ≤ T9.heap.size := Nat.le_trans Z8 K9c.1
  have N9 := Fr.app N8 N9q
  obtain ⟨T10, h10, k10, X10, e10, E10, A10, st10⟩ := newP X9 hx hZ (hw _ (List.mem_of_getElem? (i := 9) rfl)) rfl (g := (mkF m 61 #[.val (.int i0), .val (.int i1), .val (.int i2), .val (.int i3), .val (.int i4), .val (.int kk6), .val (.int (0 : Int32)), .val (.int kk21), .val (.int kk32), .val (.int kk43), .val (.int kk57), .unset, .unset, .unset, .unset, .unset, .unset, .unset, .unset, .unset] [(.int (0 : Int32))])) rfl (hb hby at_61) rfl (by decide) (cap := 0) (by decide) (by decide) (by decide) (by decide)
  obtain ⟨b10, g10⟩ : ∃ z, z = T9.heap.size := ⟨_, rfl⟩
  rw [← g10] at A10 st10
  have V_b10 := Arv.new A10 (by decide)
  have g_b10 : n0 ≤ b10 := Nat.le_trans (Nat.le_trans (Nat.le_trans (Nat.le_trans (Nat.le_trans Z0 K6c.1) K7c.1) K8c.1) K9c.1) (Nat.le_of_eq g10.symm)
  have sz_b10 : h0.size ≤ b10 := (Nat.le_trans (show Keep h0 T9.heap [] by rw [eh9, eh8, eh7, eh6]; exact Keep.refl _ _).1 (Nat.le_of_eq g10.symm))
  have K10 : Keep h0 h10 [] := (show Keep h0 T9.heap [] by rw [eh9, eh8, eh7, eh6]; exact Keep.refl _ _).ext E10
  obtain ⟨clz, Arz, -, Sz, -, Hz, -⟩ := V_b10
  refine ⟨T10, _, _, b10, clz, X10, e10, ⟨N9, K10, Arz, ⟨Sz, fun q => ?_, fun q => ?_, fun q => ?_⟩⟩, fun target kt => ?_⟩
  · exact absurd q (by decide)
  · exact absurd q (by decide)
  · exact absurd q (by decide)
  show Steps p.tables e below (T0.setTop (mkF m 0 #[.val (.int i0), .val (.int i1), .val (.int i2), .val (.int i3), .val (.int i4), .unset, .unset, .unset, .unset, .unset, .unset, .unset, .unset, .unset, .unset, .unset, .unset, .unset, .unset, .unset] [])) _
  refine XS.iloadN X0.here hx rfl (hb hby at_0) rfl ?_
  show Steps p.tables e below (T0.setTop (mkF m 1 #[.val (.int i0), .val (.int i1), .val (.int i2), .val (.int i3), .val (.int i4), .unset, .unset, .unset, .unset, .unset, .unset, .unset, .unset, .unset, .unset, .unset, .unset, .unset, .unset, .unset] [(.int i0)])) _
  refine XS.bipush X0.here hx rfl (hb hby at_1) ?_
  show Steps p.tables e below (T0.setTop (mkF m 3 #[.val (.int i0), .val (.int i1), .val (.int i2), .val (.int i3), .val (.int i4), .unset, .unset, .unset, .unset, .unset, .unset, .unset, .unset, .unset, .unset, .unset, .unset, .unset, .unset, .unset] [(.int (7 : Int32)), (.int i0)])) _
  refine XS.iand X0.here hx rfl (hb hby at_3) rfl ?_
  show Steps p.tables e below (T0.setTop (mkF m 4 #[.val (.int i0), .val (.int i1), .val (.int i2), .val (.int i3), .val (.int i4), .unset, .unset, .unset, .unset, .unset, .unset, .unset, .unset, .unset, .unset, .unset, .unset, .unset, .unset, .unset] [(.int (i0 &&& (7 : Int32)))])) _
  refine XS.iconst X0.here hx rfl (hb hby at_4) ?_
  show Steps p.tables e below (T0.setTop (mkF m 5 #[.val (.int i0), .val (.int i1), .val (.int i2), .val (.int i3), .val (.int i4), .unset, .unset, .unset, .unset, .unset, .unset, .unset, .unset, .unset, .unset, .unset, .unset, .unset, .unset, .unset] [(.int (5 : Int32)), (.int (i0 &&& (7 : Int32)))])) _
  refine iremM X0 hx rfl (hb hby at_5) rfl (by decide) ?_
  show Steps p.tables e below (T0.setTop (mkF m 6 #[.val (.int i0), .val (.int i1), .val (.int i2), .val (.int i3), .val (.int i4), .unset, .unset, .unset, .unset, .unset, .unset, .unset, .unset, .unset, .unset, .unset, .unset, .unset, .unset, .unset] [(.int ((i0 &&& (7 : Int32)) % (5 : Int32)))])) _
  refine XS.istore X0.here hx rfl (hb hby at_6) rfl (l' := #[.val (.int i0), .val (.int i1), .val (.int i2), .val (.int i3), .val (.int i4), .val (.int ((i0 &&& (7 : Int32)) % (5 : Int32))), .unset, .unset, .unset, .unset, .unset, .unset, .unset, .unset, .unset, .unset, .unset, .unset, .unset, .unset]) rfl ?_
  show Steps p.tables e below (T0.setTop (mkF m 8 #[.val (.int i0), .val (.int i1), .val (.int i2), .val (.int i3), .val (.int i4), .val (.int ((i0 &&& (7 : Int32)) % (5 : Int32))), .unset, .unset, .unset, .unset, .unset, .unset, .unset, .unset, .unset, .unset, .unset, .unset, .unset, .unset] [])) _
  rw [hk6]
  show Steps p.tables e below (T0.setTop (mkF m 8 #[.val (.int i0), .val (.int i1), .val (.int i2), .val (.int i3), .val (.int i4), .val (.int kk6), .unset, .unset, .unset, .unset, .unset, .unset, .unset, .unset, .unset, .unset, .unset, .unset, .unset, .unset] [])) _
  refine XS.iloadN X0.here hx rfl (hb hby at_8) rfl ?_
  show Steps p.tables e below (T0.setTop (mkF m 9 #[.val (.int i0), .val (.int i1), .val (.int i2), .val (.int i3), .val (.int i4), .val (.int kk6), .unset, .unset, .unset, .unset, .unset, .unset, .unset, .unset, .unset, .unset, .unset, .unset, .unset, .unset] [(.int i0)])) _
  refine XS.iconst X0.here hx rfl (hb hby at_9) ?_
  show Steps p.tables e below (T0.setTop (mkF m 10 #[.val (.int i0), .val (.int i1), .val (.int i2), .val (.int i3), .val (.int i4), .val (.int kk6), .unset, .unset, .unset, .unset, .unset, .unset, .unset, .unset, .unset, .unset, .unset, .unset, .unset, .unset] [(.int (3 : Int32)), (.int i0)])) _
  refine XS.iushr X0.here hx rfl (hb hby at_10) rfl ?_
  show Steps p.tables e below (T0.setTop (mkF m 11 #[.val (.int i0), .val (.int i1), .val (.int i2), .val (.int i3), .val (.int i4), .val (.int kk6), .unset, .unset, .unset, .unset, .unset, .unset, .unset, .unset, .unset, .unset, .unset, .unset, .unset, .unset] [(.int ((i0.toUInt32 >>> ((3 : Int32) &&& 31).toUInt32).toInt32))])) _
  refine XS.iconst X0.here hx rfl (hb hby at_11) ?_
  show Steps p.tables e below (T0.setTop (mkF m 12 #[.val (.int i0), .val (.int i1), .val (.int i2), .val (.int i3), .val (.int i4), .val (.int kk6), .unset, .unset, .unset, .unset, .unset, .unset, .unset, .unset, .unset, .unset, .unset, .unset, .unset, .unset] [(.int (3 : Int32)), (.int ((i0.toUInt32 >>> ((3 : Int32) &&& 31).toUInt32).toInt32))])) _
  refine XS.iand X0.here hx rfl (hb hby at_12) rfl ?_
  show Steps p.tables e below (T0.setTop (mkF m 13 #[.val (.int i0), .val (.int i1), .val (.int i2), .val (.int i3), .val (.int i4), .val (.int kk6), .unset, .unset, .unset, .unset, .unset, .unset, .unset, .unset, .unset, .unset, .unset, .unset, .unset, .unset] [(.int (((i0.toUInt32 >>> ((3 : Int32) &&& 31).toUInt32).toInt32) &&& (3 : Int32)))])) _
  refine XS.istore X0.here hx rfl (hb hby at_13) rfl (l' := #[.val (.int i0), .val (.int i1), .val (.int i2), .val (.int i3), .val (.int i4), .val (.int kk6), .val (.int (((i0.toUInt32 >>> ((3 : Int32) &&& 31).toUInt32).toInt32) &&& (3 : Int32))), .unset, .unset, .unset, .unset, .unset, .unset, .unset, .unset, .unset, .unset, .unset, .unset, .unset]) rfl ?_
  show Steps p.tables e below (T0.setTop (mkF m 15 #[.val (.int i0), .val (.int i1), .val (.int i2), .val (.int i3), .val (.int i4), .val (.int kk6), .val (.int (((i0.toUInt32 >>> ((3 : Int32) &&& 31).toUInt32).toInt32) &&& (3 : Int32))), .unset, .unset, .unset, .unset, .unset, .unset, .unset, .unset, .unset, .unset, .unset, .unset, .unset] [])) _
  rw [hk13]
  show Steps p.tables e below (T0.setTop (mkF m 15 #[.val (.int i0), .val (.int i1), .val (.int i2), .val (.int i3), .val (.int i4), .val (.int kk6), .val (.int (0 : Int32)), .unset, .unset, .unset, .unset, .unset, .unset, .unset, .unset, .unset, .unset, .unset, .unset, .unset] [])) _
  refine XS.iconst X0.here hx rfl (hb hby at_15) ?_
  show Steps p.tables e below (T0.setTop (mkF m 16 #[.val (.int i0), .val (.int i1), .val (.int i2), .val (.int i3), .val (.int i4), .val (.int kk6), .val (.int (0 : Int32)), .unset, .unset, .unset, .unset, .unset, .unset, .unset, .unset, .unset, .unset, .unset, .unset, .unset] [(.int (1 : Int32))])) _
  refine XS.iloadN X0.here hx rfl (hb hby at_16) rfl ?_
  show Steps p.tables e below (T0.setTop (mkF m 17 #[.val (.int i0), .val (.int i1), .val (.int i2), .val (.int i3), .val (.int i4), .val (.int kk6), .val (.int (0 : Int32)), .unset, .unset, .unset, .unset, .unset, .unset, .unset, .unset, .unset, .unset, .unset, .unset, .unset] [(.int i1), (.int (1 : Int32))])) _
  refine st6 _ ?_
  show Steps p.tables e below (T6.setTop (mkF m 20 #[.val (.int i0), .val (.int i1), .val (.int i2), .val (.int i3), .val (.int i4), .val (.int kk6), .val (.int (0 : Int32)), .unset, .unset, .unset, .unset, .unset, .unset, .unset, .unset, .unset, .unset, .unset, .unset, .unset] [(.int (F1 i1)), (.int (1 : Int32))])) _
  refine XS.iadd X6.here hx rfl (hb hby at_20) rfl ?_
  show Steps p.tables e below (T6.setTop (mkF m 21 #[.val (.int i0), .val (.int i1), .val (.int i2), .val (.int i3), .val (.int i4), .val (.int kk6), .val (.int (0 : Int32)), .unset, .unset, .unset, .unset, .unset, .unset, .unset, .unset, .unset, .unset, .unset, .unset, .unset] [(.int ((1 : Int32) + (F1 i1)))])) _
  refine XS.istore X6.here hx rfl (hb hby at_21) rfl (l' := #[.val (.int i0), .val (.int i1), .val (.int i2), .val (.int i3), .val (.int i4), .val (.int kk6), .val (.int (0 : Int32)), .val (.int ((1 : Int32) + (F1 i1))), .unset, .unset, .unset, .unset, .unset, .unset, .unset, .unset, .unset, .unset, .unset, .unset]) rfl ?_
  show Steps p.tables e below (T6.setTop (mkF m 23 #[.val (.int i0), .val (.int i1), .val (.int i2), .val (.int i3), .val (.int i4), .val (.int kk6), .val (.int (0 : Int32)), .val (.int ((1 : Int32) + (F1 i1))), .unset, .unset, .unset, .unset, .unset, .unset, .unset, .unset, .unset, .unset, .unset, .unset] [])) _
  rw [hk21]
  show Steps p.tables e below (T6.setTop (mkF m 23 #[.val (.int i0), .val (.int i1), .val (.int i2), .val (.int i3), .val (.int i4), .val (.int kk6), .val (.int (0 : Int32)), .val (.int kk21), .unset, .unset, .unset, .unset, .unset, .unset, .unset, .unset, .unset, .unset, .unset, .unset] [])) _
  refine XS.iload X6.here hx rfl (hb hby at_23) rfl ?_
  show Steps p.tables e below (T6.setTop (mkF m 25 #[.val (.int i0), .val (.int i1), .val (.int i2), .val (.int i3), .val (.int i4), .val (.int kk6), .val (.int (0 : Int32)), .val (.int kk21), .unset, .unset, .unset, .unset, .unset, .unset, .unset, .unset, .unset, .unset, .unset, .unset] [(.int kk21)])) _
  refine XS.iconst X6.here hx rfl (hb hby at_25) ?_
  show Steps p.tables e below (T6.setTop (mkF m 26 #[.val (.int i0), .val (.int i1), .val (.int i2), .val (.int i3), .val (.int i4), .val (.int kk6), .val (.int (0 : Int32)), .val (.int kk21), .unset, .unset, .unset, .unset, .unset, .unset, .unset, .unset, .unset, .unset, .unset, .unset] [(.int (1 : Int32)), (.int kk21)])) _
  refine XS.iadd X6.here hx rfl (hb hby at_26) rfl ?_
  show Steps p.tables e below (T6.setTop (mkF m 27 #[.val (.int i0), .val (.int i1), .val (.int i2), .val (.int i3), .val (.int i4), .val (.int kk6), .val (.int (0 : Int32)), .val (.int kk21), .unset, .unset, .unset, .unset, .unset, .unset, .unset, .unset, .unset, .unset, .unset, .unset] [(.int (kk21 + (1 : Int32)))])) _
  refine XS.iloadN X6.here hx rfl (hb hby at_27) rfl ?_
  show Steps p.tables e below (T6.setTop (mkF m 28 #[.val (.int i0), .val (.int i1), .val (.int i2), .val (.int i3), .val (.int i4), .val (.int kk6), .val (.int (0 : Int32)), .val (.int kk21), .unset, .unset, .unset, .unset, .unset, .unset, .unset, .unset, .unset, .unset, .unset, .unset] [(.int i2), (.int (kk21 + (1 : Int32)))])) _
  refine st7 _ ?_
  show Steps p.tables e below (T7.setTop (mkF m 31 #[.val (.int i0), .val (.int i1), .val (.int i2), .val (.int i3), .val (.int i4), .val (.int kk6), .val (.int (0 : Int32)), .val (.int kk21), .unset, .unset, .unset, .unset, .unset, .unset, .unset, .unset, .unset, .unset, .unset, .unset] [(.int (F1 i2)), (.int (kk21 + (1 : Int32)))])) _
  refine XS.iadd X7.here hx rfl (hb hby at_31) rfl ?_
  show Steps p.tables e below (T7.setTop (mkF m 32 #[.val (.int i0), .val (.int i1), .val (.int i2), .val (.int i3), .val (.int i4), .val (.int kk6), .val (.int (0 : Int32)), .val (.int kk21), .unset, .unset, .unset, .unset, .unset, .unset, .unset, .unset, .unset, .unset, .unset, .unset] [(.int ((kk21 + (1 : Int32)) + (F1 i2)))])) _
  refine XS.istore X7.here hx rfl (hb hby at_32) rfl (l' := #[.val (.int i0), .val (.int i1), .val (.int i2), .val (.int i3), .val (.int i4), .val (.int kk6), .val (.int (0 : Int32)), .val (.int kk21), .val (.int ((kk21 + (1 : Int32)) + (F1 i2))), .unset, .unset, .unset, .unset, .unset, .unset, .unset, .unset, .unset, .unset, .unset]) rfl ?_
  show Steps p.tables e below (T7.setTop (mkF m 34 #[.val (.int i0), .val (.int i1), .val (.int i2), .val (.int i3), .val (.int i4), .val (.int kk6), .val (.int (0 : Int32)), .val (.int kk21), .val (.int ((kk21 + (1 : Int32)) + (F1 i2))), .unset, .unset, .unset, .unset, .unset, .unset, .unset, .unset, .unset, .unset, .unset] [])) _
  rw [hk32]
  show Steps p.tables e below (T7.setTop (mkF m 34 #[.val (.int i0), .val (.int i1), .val (.int i2), .val (.int i3), .val (.int i4), .val (.int kk6), .val (.int (0 : Int32)), .val (.int kk21), .val (.int kk32), .unset, .unset, .unset, .unset, .unset, .unset, .unset, .unset, .unset, .unset, .unset] [])) _
  refine XS.iload X7.here hx rfl (hb hby at_34) rfl ?_
  show Steps p.tables e below (T7.setTop (mkF m 36 #[.val (.int i0), .val (.int i1), .val (.int i2), .val (.int i3), .val (.int i4), .val (.int kk6), .val (.int (0 : Int32)), .val (.int kk21), .val (.int kk32), .unset, .unset, .unset, .unset, .unset, .unset, .unset, .unset, .unset, .unset, .unset] [(.int kk32)])) _
  refine XS.iconst X7.here hx rfl (hb hby at_36) ?_
  show Steps p.tables e below (T7.setTop (mkF m 37 #[.val (.int i0), .val (.int i1), .val (.int i2), .val (.int i3), .val (.int i4), .val (.int kk6), .val (.int (0 : Int32)), .val (.int kk21), .val (.int kk32), .unset, .unset, .unset, .unset, .unset, .unset, .unset, .unset, .unset, .unset, .unset] [(.int (1 : Int32)), (.int kk32)])) _
  refine XS.iadd X7.here hx rfl (hb hby at_37) rfl ?_
  show Steps p.tables e below (T7.setTop (mkF m 38 #[.val (.int i0), .val (.int i1), .val (.int i2), .val (.int i3), .val (.int i4), .val (.int kk6), .val (.int (0 : Int32)), .val (.int kk21), .val (.int kk32), .unset, .unset, .unset, .unset, .unset, .unset, .unset, .unset, .unset, .unset, .unset] [(.int (kk32 + (1 : Int32)))])) _
  refine XS.iloadN X7.here hx rfl (hb hby at_38) rfl ?_
  show Steps p.tables e below (T7.setTop (mkF m 39 #[.val (.int i0), .val (.int i1), .val (.int i2), .val (.int i3), .val (.int i4), .val (.int kk6), .val (.int (0 : Int32)), .val (.int kk21), .val (.int kk32), .unset, .unset, .unset, .unset, .unset, .unset, .unset, .unset, .unset, .unset, .unset] [(.int i3), (.int (kk32 + (1 : Int32)))])) _
  refine st8 _ ?_
  show Steps p.tables e below (T8.setTop (mkF m 42 #[.val (.int i0), .val (.int i1), .val (.int i2), .val (.int i3), .val (.int i4), .val (.int kk6), .val (.int (0 : Int32)), .val (.int kk21), .val (.int kk32), .unset, .unset, .unset, .unset, .unset, .unset, .unset, .unset, .unset, .unset, .unset] [(.int (F1 i3)), (.int (kk32 + (1 : Int32)))])) _
  refine XS.iadd X8.here hx rfl (hb hby at_42) rfl ?_
  show Steps p.tables e below (T8.setTop (mkF m 43 #[.val (.int i0), .val (.int i1), .val (.int i2), .val (.int i3), .val (.int i4), .val (.int kk6), .val (.int (0 : Int32)), .val (.int kk21), .val (.int kk32), .unset, .unset, .unset, .unset, .unset, .unset, .unset, .unset, .unset, .unset, .unset] [(.int ((kk32 + (1 : Int32)) + (F1 i3)))])) _
  refine XS.istore X8.here hx rfl (hb hby at_43) rfl (l' := #[.val (.int i0), .val (.int i1), .val (.int i2), .val (.int i3), .val (.int i4), .val (.int kk6), .val (.int (0 : Int32)), .val (.int kk21), .val (.int kk32), .val (.int ((kk32 + (1 : Int32)) + (F1 i3))), .unset, .unset, .unset, .unset, .unset, .unset, .unset, .unset, .unset, .unset]) rfl ?_
  show Steps p.tables e below (T8.setTop (mkF m 45 #[.val (.int i0), .val (.int i1), .val (.int i2), .val (.int i3), .val (.int i4), .val (.int kk6), .val (.int (0 : Int32)), .val (.int kk21), .val (.int kk32), .val (.int ((kk32 + (1 : Int32)) + (F1 i3))), .unset, .unset, .unset, .unset, .unset, .unset, .unset, .unset, .unset, .unset] [])) _
  rw [hk43]
  show Steps p.tables e below (T8.setTop (mkF m 45 #[.val (.int i0), .val (.int i1), .val (.int i2), .val (.int i3), .val (.int i4), .val (.int kk6), .val (.int (0 : Int32)), .val (.int kk21), .val (.int kk32), .val (.int kk43), .unset, .unset, .unset, .unset, .unset, .unset, .unset, .unset, .unset, .unset] [])) _
  refine XS.iload X8.here hx rfl (hb hby at_45) rfl ?_
  show Steps p.tables e below (T8.setTop (mkF m 47 #[.val (.int i0), .val (.int i1), .val (.int i2), .val (.int i3), .val (.int i4), .val (.int kk6), .val (.int (0 : Int32)), .val (.int kk21), .val (.int kk32), .val (.int kk43), .unset, .unset, .unset, .unset, .unset, .unset, .unset, .unset, .unset, .unset] [(.int (0 : Int32))])) _
  refine XS.iconst X8.here hx rfl (hb hby at_47) ?_
  show Steps p.tables e below (T8.setTop (mkF m 48 #[.val (.int i0), .val (.int i1), .val (.int i2), .val (.int i3), .val (.int i4), .val (.int kk6), .val (.int (0 : Int32)), .val (.int kk21), .val (.int kk32), .val (.int kk43), .unset, .unset, .unset, .unset, .unset, .unset, .unset, .unset, .unset, .unset] [(.int (1 : Int32)), (.int (0 : Int32))])) _
  refine st9 _ ?_
  show Steps p.tables e below (T9.setTop (mkF m 51 #[.val (.int i0), .val (.int i1), .val (.int i2), .val (.int i3), .val (.int i4), .val (.int kk6), .val (.int (0 : Int32)), .val (.int kk21), .val (.int kk32), .val (.int kk43), .unset, .unset, .unset, .unset, .unset, .unset, .unset, .unset, .unset, .unset] [(.int (F2 (0 : Int32) (1 : Int32)))])) _
  refine XS.iload X9.here hx rfl (hb hby at_51) rfl ?_
  show Steps p.tables e below (T9.setTop (mkF m 53 #[.val (.int i0), .val (.int i1), .val (.int i2), .val (.int i3), .val (.int i4), .val (.int kk6), .val (.int (0 : Int32)), .val (.int kk21), .val (.int kk32), .val (.int kk43), .unset, .unset, .unset, .unset, .unset, .unset, .unset, .unset, .unset, .unset] [(.int i4), (.int (F2 (0 : Int32) (1 : Int32)))])) _
  refine X9.ldcInt hx hown (mvT hZ (hw _ (List.mem_of_getElem? (i := 8) rfl))) (g := (mkF m 53 #[.val (.int i0), .val (.int i1), .val (.int i2), .val (.int i3), .val (.int i4), .val (.int kk6), .val (.int (0 : Int32)), .val (.int kk21), .val (.int kk32), .val (.int kk43), .unset, .unset, .unset, .unset, .unset, .unset, .unset, .unset, .unset, .unset] [(.int i4), (.int (F2 (0 : Int32) (1 : Int32)))])) rfl (hb hby at_53) _ ?_
  show Steps p.tables e below (T9.setTop (mkF m 55 #[.val (.int i0), .val (.int i1), .val (.int i2), .val (.int i3), .val (.int i4), .val (.int kk6), .val (.int (0 : Int32)), .val (.int kk21), .val (.int kk32), .val (.int kk43), .unset, .unset, .unset, .unset, .unset, .unset, .unset, .unset, .unset, .unset] [(.int (1073741823 : Int32)), (.int i4), (.int (F2 (0 : Int32) (1 : Int32)))])) _
  refine XS.iand X9.here hx rfl (hb hby at_55) rfl ?_
  show Steps p.tables e below (T9.setTop (mkF m 56 #[.val (.int i0), .val (.int i1), .val (.int i2), .val (.int i3), .val (.int i4), .val (.int kk6), .val (.int (0 : Int32)), .val (.int kk21), .val (.int kk32), .val (.int kk43), .unset, .unset, .unset, .unset, .unset, .unset, .unset, .unset, .unset, .unset] [(.int (i4 &&& (1073741823 : Int32))), (.int (F2 (0 : Int32) (1 : Int32)))])) _
  refine XS.iadd X9.here hx rfl (hb hby at_56) rfl ?_
  show Steps p.tables e below (T9.setTop (mkF m 57 #[.val (.int i0), .val (.int i1), .val (.int i2), .val (.int i3), .val (.int i4), .val (.int kk6), .val (.int (0 : Int32)), .val (.int kk21), .val (.int kk32), .val (.int kk43), .unset, .unset, .unset, .unset, .unset, .unset, .unset, .unset, .unset, .unset] [(.int ((F2 (0 : Int32) (1 : Int32)) + (i4 &&& (1073741823 : Int32))))])) _
  refine XS.istore X9.here hx rfl (hb hby at_57) rfl (l' := #[.val (.int i0), .val (.int i1), .val (.int i2), .val (.int i3), .val (.int i4), .val (.int kk6), .val (.int (0 : Int32)), .val (.int kk21), .val (.int kk32), .val (.int kk43), .val (.int ((F2 (0 : Int32) (1 : Int32)) + (i4 &&& (1073741823 : Int32)))), .unset, .unset, .unset, .unset, .unset, .unset, .unset, .unset, .unset]) rfl ?_
  show Steps p.tables e below (T9.setTop (mkF m 59 #[.val (.int i0), .val (.int i1), .val (.int i2), .val (.int i3), .val (.int i4), .val (.int kk6), .val (.int (0 : Int32)), .val (.int kk21), .val (.int kk32), .val (.int kk43), .val (.int ((F2 (0 : Int32) (1 : Int32)) + (i4 &&& (1073741823 : Int32)))), .unset, .unset, .unset, .unset, .unset, .unset, .unset, .unset, .unset] [])) _
  rw [hk57]
  show Steps p.tables e below (T9.setTop (mkF m 59 #[.val (.int i0), .val (.int i1), .val (.int i2), .val (.int i3), .val (.int i4), .val (.int kk6), .val (.int (0 : Int32)), .val (.int kk21), .val (.int kk32), .val (.int kk43), .val (.int kk57), .unset, .unset, .unset, .unset, .unset, .unset, .unset, .unset, .unset] [])) _
  refine XS.iload X9.here hx rfl (hb hby at_59) rfl ?_
  show Steps p.tables e below (T9.setTop (mkF m 61 #[.val (.int i0), .val (.int i1), .val (.int i2), .val (.int i3), .val (.int i4), .val (.int kk6), .val (.int (0 : Int32)), .val (.int kk21), .val (.int kk32), .val (.int kk43), .val (.int kk57), .unset, .unset, .unset, .unset, .unset, .unset, .unset, .unset, .unset] [(.int (0 : Int32))])) _
  refine st10 _ ?_
  show Steps p.tables e below (T10.setTop (mkF m 63 #[.val (.int i0), .val (.int i1), .val (.int i2), .val (.int i3), .val (.int i4), .val (.int kk6), .val (.int (0 : Int32)), .val (.int kk21), .val (.int kk32), .val (.int kk43), .val (.int kk57), .unset, .unset, .unset, .unset, .unset, .unset, .unset, .unset, .unset] [(.ref b10)])) _
  refine XS.astore X10.here hx rfl (hb hby at_63) rfl rfl (l' := #[.val (.int i0), .val (.int i1), .val (.int i2), .val (.int i3), .val (.int i4), .val (.int kk6), .val (.int (0 : Int32)), .val (.int kk21), .val (.int kk32), .val (.int kk43), .val (.int kk57), .val (.ref b10), .unset, .unset, .unset, .unset, .unset, .unset, .unset, .unset]) rfl ?_
  show Steps p.tables e below (T10.setTop (mkF m 65 #[.val (.int i0), .val (.int i1), .val (.int i2), .val (.int i3), .val (.int i4), .val (.int kk6), .val (.int (0 : Int32)), .val (.int kk21), .val (.int kk32), .val (.int kk43), .val (.int kk57), .val (.ref b10), .unset, .unset, .unset, .unset, .unset, .unset, .unset, .unset] [])) _
  refine XS.iload X10.here hx rfl (hb hby at_65) rfl ?_
  show Steps p.tables e below (T10.setTop (mkF m 67 #[.val (.int i0), .val (.int i1), .val (.int i2), .val (.int i3), .val (.int i4), .val (.int kk6), .val (.int (0 : Int32)), .val (.int kk21), .val (.int kk32), .val (.int kk43), .val (.int kk57), .val (.ref b10), .unset, .unset, .unset, .unset, .unset, .unset, .unset, .unset] [(.int (0 : Int32))])) _
  refine XS.ifYes X10.here hx rfl (pc0 := 67) (pc' := 76) rfl (hb hby at_67) rfl ((if0 _ _).trans (flt (by decide : ¬ ((0 : Int32) < (0 : Int32)))).2.2.2) (by decide) (by decide) ?_
  show Steps p.tables e below (T10.setTop (mkF m 76 #[.val (.int i0), .val (.int i1), .val (.int i2), .val (.int i3), .val (.int i4), .val (.int kk6), .val (.int (0 : Int32)), .val (.int kk21), .val (.int kk32), .val (.int kk43), .val (.int kk57), .val (.ref b10), .unset, .unset, .unset, .unset, .unset, .unset, .unset, .unset] [])) _
  refine XS.iload X10.here hx rfl (hb hby at_76) rfl ?_
  show Steps p.tables e below (T10.setTop (mkF m 78 #[.val (.int i0), .val (.int i1), .val (.int i2), .val (.int i3), .val (.int i4), .val (.int kk6), .val (.int (0 : Int32)), .val (.int kk21), .val (.int kk32), .val (.int kk43), .val (.int kk57), .val (.ref b10), .unset, .unset, .unset, .unset, .unset, .unset, .unset, .unset] [(.int (0 : Int32))])) _
  refine XS.iconst X10.here hx rfl (hb hby at_78) ?_
  show Steps p.tables e below (T10.setTop (mkF m 79 #[.val (.int i0), .val (.int i1), .val (.int i2), .val (.int i3), .val (.int i4), .val (.int kk6), .val (.int (0 : Int32)), .val (.int kk21), .val (.int kk32), .val (.int kk43), .val (.int kk57), .val (.ref b10), .unset, .unset, .unset, .unset, .unset, .unset, .unset, .unset] [(.int (1 : Int32)), (.int (0 : Int32))])) _
  refine XS.icmpYes X10.here hx rfl (pc0 := 79) (pc' := 88) rfl (hb hby at_79) rfl (flt (by decide : ¬ ((1 : Int32) < (0 : Int32)))).2.2.2 (by decide) (by decide) ?_
  show Steps p.tables e below (T10.setTop (mkF m 88 #[.val (.int i0), .val (.int i1), .val (.int i2), .val (.int i3), .val (.int i4), .val (.int kk6), .val (.int (0 : Int32)), .val (.int kk21), .val (.int kk32), .val (.int kk43), .val (.int kk57), .val (.ref b10), .unset, .unset, .unset, .unset, .unset, .unset, .unset, .unset] [])) _
  refine XS.iload X10.here hx rfl (hb hby at_88) rfl ?_
  show Steps p.tables e below (T10.setTop (mkF m 90 #[.val (.int i0), .val (.int i1), .val (.int i2), .val (.int i3), .val (.int i4), .val (.int kk6), .val (.int (0 : Int32)), .val (.int kk21), .val (.int kk32), .val (.int kk43), .val (.int kk57), .val (.ref b10), .unset, .unset, .unset, .unset, .unset, .unset, .unset, .unset] [(.int (0 : Int32))])) _
  refine XS.iconst X10.here hx rfl (hb hby at_90) ?_
  show Steps p.tables e below (T10.setTop (mkF m 91 #[.val (.int i0), .val (.int i1), .val (.int i2), .val (.int i3), .val (.int i4), .val (.int kk6), .val (.int (0 : Int32)), .val (.int kk21), .val (.int kk32), .val (.int kk43), .val (.int kk57), .val (.ref b10), .unset, .unset, .unset, .unset, .unset, .unset, .unset, .unset] [(.int (2 : Int32)), (.int (0 : Int32))])) _
  refine XS.icmpYes X10.here hx rfl (pc0 := 91) (pc' := 100) rfl (hb hby at_91) rfl (flt (by decide : ¬ ((2 : Int32) < (0 : Int32)))).2.2.2 (by decide) (by decide) ?_
  exact kt
set_option maxRecDepth 65536 in
set_option maxHeartbeats 40000000 in
theorem s1_1 {p : Program} {l : Launch} {e : Env} {s : State} {m : MethodId} {args : Array Value} {below : List Frame} {meth : Method} {c : Code} {T0 : State} {Z : State} {a0 : Array Value} {h0 : Heap} (n0 : Nat) (Z0 : n0 ≤ h0.size) (i0 : Int32) (i1 : Int32) (i2 : Int32) (i3 : Int32) (i4 : Int32) (kk6 : Int32) (kk21 : Int32) (kk32 : Int32) (kk43 : Int32) (kk57 : Int32)
    (X0 : Stand p l e ({ frames := 5, cells := 16, slots := 128, locals := 128 } : Room) s m args below meth c T0 [] 0 0) (hx : p.tables.exec = Jvm.exec) (hZ : Z.Warmed39 s.vm) (hw : ∀ d ∈ tables_1, d.before a0 Z = true) (hby : c.code = code) (hml : c.maxLocals = 20) (hown : s.vm.findClass "com/example/pesquisa/pesquisa/MeasureScorePinLaw" = some m.cls) (e0 : T0.heap = h0) (hk6 : ((i0 &&& (7 : Int32)) % (5 : Int32)) = kk6) (hk13 : (((i0.toUInt32 >>> ((3 : Int32) &&& 31).toUInt32).toInt32) &&& (3 : Int32)) = (1 : Int32)) (hk21 : ((1 : Int32) + (F1 i1)) = kk21) (hk32 : ((kk21 + (1 : Int32)) + (F1 i2)) = kk32) (hk43 : ((kk32 + (1 : Int32)) + (F1 i3)) = kk43) (hk57 : ((F2 (1 : Int32) (1 : Int32)) + (i4 &&& (1073741823 : Int32))) = kk57) :
    ∃ (T' : State) (h' : Heap) (locs' : List Loc) (b : Addr) (cl_ : Cell), Stand p l e ({ frames := 5, cells := 16, slots := 128, locals := 128 } : Room) s m args below meth c T' locs' 1 1 ∧ T'.heap = h' ∧ (Fr n0 locs' ∧ Keep h0 h' [] ∧ Arr Z h' b cl_ .int ∧ RK 1 cl_ kk21 kk32 kk43) ∧
      ∀ target, Steps p.tables e below (T'.setTop (mkF m 100 #[.val (.int i0), .val (.int i1), .val (.int i2), .val (.int i3), .val (.int i4), .val (.int kk6), .val (.int (1 : Int32)), .val (.int kk21), .val (.int kk32), .val (.int kk43), .val (.int kk57), .val (.ref b), .unset, .unset, .unset, .unset, .unset, .unset, .unset, .unset] [])) target → Steps p.tables e below (T0.setTop (mkF m 0 #[.val (.int i0), .val (.int i1), .val (.int i2), .val (.int i3), .val (.int i4), .unset, .unset, .unset, .unset, .unset, .unset, .unset, .unset, .unset, .unset, .unset, .unset, .unset, .unset, .unset] [])) target := by
  have N0 := Fr.nil n0
  obtain ⟨_, _, ⟨T6, L6, k6, n6⟩, -, X6, ⟨Lc6, hQ6, l6, y6, z6⟩, st6⟩ := Jvm.LawKit.callS X0 hx (y := (⟨"com/example/pesquisa/pesquisa/MeasureScorePinLaw", "gap", "(I)I"⟩ : MethodName)) hown (mvT hZ (hw _ (List.mem_of_getElem? (i := 0) rfl))) (mvT hZ (hw _ (List.mem_of_getElem? (i := 1) rfl))) (mvT hZ (hw _ (List.mem_of_getElem? (i := 2) rfl))) (mvT hZ (hw _ (List.mem_of_getElem? (i := 3) rfl))) (by decide) (backOf (W := 1) (rm1 l Z a0 hw [] i1 h0 n0 Z0) hZ (hw _ (List.mem_of_getElem? (i := 3) rfl)) (hw _ (List.mem_of_getElem? (i := 2) rfl)) (by decide) (by decide)) (g := (mkF m 17 #[.val (.int i0), .val (.int i1), .val (.int i2), .val (.int i3), .val (.int i4), .val (.int kk6), .val (.int (1 : Int32)), .unset, .unset, .unset, .unset, .unset, .unset, .unset, .unset, .unset, .unset, .unset, .unset, .unset] [(.int i1), (.int (1 : Int32))])) rfl (by rw [hml]; rfl) (argsL := [(.int i1)]) (rest := [(.int (1 : Int32))]) (lenOf pd_0_0 rfl) rfl (by show 2 * 0 + _ ≤ _; exact Nat.le_of_eq rfl) (hb hby at_17) (fun _ _ => ⟨rfl, e0, (by decide : 0 + 0 ≤ _), (by decide : 0 + 0 ≤ _)⟩)
  dsimp only [Pt.U, Pt.locs, Pt.cells, Pt.slots] at X6 l6 y6 z6 st6 hQ6
  subst l6 y6 z6
  obtain ⟨rfl, N6q, eh6⟩ := hQ6
  have K6c : Keep h0 T6.heap [] := by rw [eh6]; exact Keep.refl _ _
  have Z6 : n0 ≤ T6.heap.size := Nat.le_trans Z0 K6c.1
  have N6 := Fr.app N0 N6q
  obtain ⟨_, _, ⟨T7, L7, k7, n7⟩, -, X7, ⟨Lc7, hQ7, l7, y7, z7⟩, st7⟩ := Jvm.LawKit.callS X6 hx (y := (⟨"com/example/pesquisa/pesquisa/MeasureScorePinLaw", "gap", "(I)I"⟩ : MethodName)) hown (mvT hZ (hw _ (List.mem_of_getElem? (i := 0) rfl))) (mvT hZ (hw _ (List.mem_of_getElem? (i := 1) rfl))) (mvT hZ (hw _ (List.mem_of_getElem? (i := 2) rfl))) (mvT hZ (hw _ (List.mem_of_getElem? (i := 3) rfl))) (by decide) (backOf (W := 1) (rm1 l Z a0 hw [] i2 T6.heap n0 Z6) hZ (hw _ (List.mem_of_getElem? (i := 3) rfl)) (hw _ (List.mem_of_getElem? (i := 2) rfl)) (by decide) (by decide)) (g := (mkF m 28 #[.val (.int i0), .val (.int i1), .val (.int i2), .val (.int i3), .val (.int i4), .val (.int kk6), .val (.int (1 : Int32)), .val (.int kk21), .unset, .unset, .unset, .unset, .unset, .unset, .unset, .unset, .unset, .unset, .unset, .unset] [(.int i2), (.int (kk21 + (1 : Int32)))])) rfl (by rw [hml]; rfl) (argsL := [(.int i2)]) (rest := [(.int (kk21 + (1 : Int32)))]) (lenOf pd_0_0 rfl) rfl (by show 2 * 0 + _ ≤ _; exact Nat.le_of_eq rfl) (hb hby at_28) (fun _ _ => ⟨rfl, rfl, (by decide : 0 + 0 ≤ _), (by decide : 0 + 0 ≤ _)⟩)
  dsimp only [Pt.U, Pt.locs, Pt.cells, Pt.slots] at X7 l7 y7 z7 st7 hQ7
  subst l7 y7 z7
  obtain ⟨rfl, N7q, eh7⟩ := hQ7
  have K7c : Keep T6.heap T7.heap [] := by rw [eh7]; exact Keep.refl _ _
  have Z7 : n0 ≤ T7.heap.size := Nat.le_trans Z6 K7c.1
  have N7 := Fr.app N6 N7q
  obtain ⟨_, _, ⟨T8, L8, k8, n8⟩, -, X8, ⟨Lc8, hQ8, l8, y8, z8⟩, st8⟩ := Jvm.LawKit.callS X7 hx (y := (⟨"com/example/pesquisa/pesquisa/MeasureScorePinLaw", "gap", "(I)I"⟩ : MethodName)) hown (mvT hZ (hw _ (List.mem_of_getElem? (i := 0) rfl))) (mvT hZ (hw _ (List.mem_of_getElem? (i := 1) rfl))) (mvT hZ (hw _ (List.mem_of_getElem? (i := 2) rfl))) (mvT hZ (hw _ (List.mem_of_getElem? (i := 3) rfl))) (by decide) (backOf (W := 1) (rm1 l Z a0 hw [] i3 T7.heap n0 Z7) hZ (hw _ (List.mem_of_getElem? (i := 3) rfl)) (hw _ (List.mem_of_getElem? (i := 2) rfl)) (by decide) (by decide)) (g := (mkF m 39 #[.val (.int i0), .val (.int i1), .val (.int i2), .val (.int i3), .val (.int i4), .val (.int kk6), .val (.int (1 : Int32)), .val (.int kk21), .val (.int kk32), .unset, .unset, .unset, .unset, .unset, .unset, .unset, .unset, .unset, .unset, .unset] [(.int i3), (.int (kk32 + (1 : Int32)))])) rfl (by rw [hml]; rfl) (argsL := [(.int i3)]) (rest := [(.int (kk32 + (1 : Int32)))]) (lenOf pd_0_0 rfl) rfl (by show 2 * 0 + _ ≤ _; exact Nat.le_of_eq rfl) (hb hby at_39) (fun _ _ => ⟨rfl, rfl, (by decide : 0 + 0 ≤ _), (by decide : 0 + 0 ≤ _)⟩)
  dsimp only [Pt.U, Pt.locs, Pt.cells, Pt.slots] at X8 l8 y8 z8 st8 hQ8
  subst l8 y8 z8
  obtain ⟨rfl, N8q, eh8⟩ := hQ8
  have K8c : Keep T7.heap T8.heap [] := by rw [eh8]; exact Keep.refl _ _
  have Z8 : n0 ≤ T8.heap.size := Nat.le_trans Z7 K8c.1
  have N8 := Fr.app N7 N8q
  obtain ⟨_, _, ⟨T9, L9, k9, n9⟩, -, X9, ⟨Lc9, hQ9, l9, y9, z9⟩, st9⟩ := Jvm.LawKit.callS X8 hx (y := (⟨"java/lang/Math", "max", "(II)I"⟩ : MethodName)) hown (mvT hZ (hw _ (List.mem_of_getElem? (i := 4) rfl))) (mvT hZ (hw _ (List.mem_of_getElem? (i := 5) rfl))) (mvT hZ (hw _ (List.mem_of_getElem? (i := 6) rfl))) (mvT hZ (hw _ (List.mem_of_getElem? (i := 7) rfl))) (by decide) (backOf (W := 0) (rm2 l Z a0 hw [] (1 : Int32) (1 : Int32) T8.heap n0 Z8) hZ (hw _ (List.mem_of_getElem? (i := 7) rfl)) (hw _ (List.mem_of_getElem? (i := 6) rfl)) (by decide) (by decide)) (g := (mkF m 48 #[.val (.int i0), .val (.int i1), .val (.int i2), .val (.int i3), .val (.int i4), .val (.int kk6), .val (.int (1 : Int32)), .val (.int kk21), .val (.int kk32), .val (.int kk43), .unset, .unset, .unset, .unset, .unset, .unset, .unset, .unset, .unset, .unset] [(.int (1 : Int32)), (.int (1 : Int32))])) rfl (by rw [hml]; rfl) (argsL := [(.int (1 : Int32)), (.int (1 : Int32))]) (rest := []) (lenOf pd_0_1 rfl) rfl (by show 2 * 0 + _ ≤ _; exact Nat.le_of_eq rfl) (hb hby at_48) (fun _ _ => ⟨rfl, rfl, (by decide : 0 + 0 ≤ _), (by decide : 0 + 0 ≤ _)⟩)
  dsimp only [Pt.U, Pt.locs, Pt.cells, Pt.slots] at X9 l9 y9 z9 st9 hQ9
  subst l9 y9 z9
  obtain ⟨rfl, N9q, eh9⟩ := hQ9
  have K9c : Keep T8.heap T9.heap [] := by rw [eh9]; exact Keep.refl _ _
  have Z9 : n0 ≤ T9.heap.size := Nat.le_trans Z8 K9c.1
  have N9 := Fr.app N8 N9q
  obtain ⟨T10, h10, k10, X10, e10, E10, A10, st10⟩ := newP X9 hx hZ (hw _ (List.mem_of_getElem? (i := 9) rfl)) rfl (g := (mkF m 61 #[.val (.int i0), .val (.int i1), .val (.int i2), .val (.int i3), .val (.int i4), .val (.int kk6), .val (.int (1 : Int32)), .val (.int kk21), .val (.int kk32), .val (.int kk43), .val (.int kk57), .unset, .unset, .unset, .unset, .unset, .unset, .unset, .unset, .unset] [(.int (1 : Int32))])) rfl (hb hby at_61) rfl (by decide) (cap := 1) (by decide) (by decide) (by decide) (by decide)
  obtain ⟨b10, g10⟩ : ∃ z, z = T9.heap.size := ⟨_, rfl⟩
  rw [← g10] at A10 st10
  have V_b10 : Arv Z h10 b10 k10 .int (1 : Int32) [(.int (0 : Int32))] (.int (0 : Int32)) := (Arv.new A10 (by decide)).pad (pad_rep [] (.int (0 : Int32)) 1)
  have g_b10 : n0 ≤ b10 := Nat.le_trans (Nat.le_trans (Nat.le_trans (Nat.le_trans (Nat.le_trans Z0 K6c.1) K7c.1) K8c.1) K9c.1) (Nat.le_of_eq g10.symm)
  have sz_b10 : h0.size ≤ b10 := (Nat.le_trans (show Keep h0 T9.heap [] by rw [eh9, eh8, eh7, eh6]; exact Keep.refl _ _).1 (Nat.le_of_eq g10.symm))
  have K10 : Keep h0 h10 [] := (show Keep h0 T9.heap [] by rw [eh9, eh8, eh7, eh6]; exact Keep.refl _ _).ext E10
  obtain ⟨cl_b10_75, Ar_b10, q_b10, S_b10, N_b10, H_b10, G_b10⟩ := V_b10
  have hin75 : ¬ ((0 : Int32) < 0 ∨ cl_b10_75.slots.size ≤ ((0 : Int32)).toNatClampNeg) := inb_of S_b10 ⟨by decide, by decide⟩
  obtain ⟨T11, h11, X11, e11, W11, st11⟩ := stI X10 hx hZ e10 Ar_b10 (j := (0 : Int32)) hin75 (g := (mkF m 75 #[.val (.int i0), .val (.int i1), .val (.int i2), .val (.int i3), .val (.int i4), .val (.int kk6), .val (.int (1 : Int32)), .val (.int kk21), .val (.int kk32), .val (.int kk43), .val (.int kk57), .val (.ref b10), .unset, .unset, .unset, .unset, .unset, .unset, .unset, .unset] [(.int kk21), (.int (0 : Int32)), (.ref b10)])) rfl rfl (hb hby at_75)
  have V_b10_11 := Arv.set Ar_b10 q_b10 S_b10 N_b10 H_b10 G_b10 rfl W11 0 rfl (Nat.le_of_ble_eq_true rfl)
  have K11 : Keep h0 h11 [] := K10.wr W11 (Or.inr sz_b10)
  have N11 := Fr.snoc X11 N9 g_b10
  obtain ⟨clz, Arz, -, Sz, -, Hz, -⟩ := V_b10_11
  refine ⟨T11, _, _, b10, clz, X11, e11, ⟨N11, K11, Arz, ⟨Sz, fun q => ?_, fun q => ?_, fun q => ?_⟩⟩, fun target kt => ?_⟩
  · exact (Hz 0 (by rw [Sz]; decide)).trans rfl
  · exact absurd q (by decide)
  · exact absurd q (by decide)
  show Steps p.tables e below (T0.setTop (mkF m 0 #[.val (.int i0), .val (.int i1), .val (.int i2), .val (.int i3), .val (.int i4), .unset, .unset, .unset, .unset, .unset, .unset, .unset, .unset, .unset, .unset, .unset, .unset, .unset, .unset, .unset] [])) _
  refine XS.iloadN X0.here hx rfl (hb hby at_0) rfl ?_
  show Steps p.tables e below (T0.setTop (mkF m 1 #[.val (.int i0), .val (.int i1), .val (.int i2), .val (.int i3), .val (.int i4), .unset, .unset, .unset, .unset, .unset, .unset, .unset, .unset, .unset, .unset, .unset, .unset, .unset, .unset, .unset] [(.int i0)])) _
  refine XS.bipush X0.here hx rfl (hb hby at_1) ?_
  show Steps p.tables e below (T0.setTop (mkF m 3 #[.val (.int i0), .val (.int i1), .val (.int i2), .val (.int i3), .val (.int i4), .unset, .unset, .unset, .unset, .unset, .unset, .unset, .unset, .unset, .unset, .unset, .unset, .unset, .unset, .unset] [(.int (7 : Int32)), (.int i0)])) _
  refine XS.iand X0.here hx rfl (hb hby at_3) rfl ?_
  show Steps p.tables e below (T0.setTop (mkF m 4 #[.val (.int i0), .val (.int i1), .val (.int i2), .val (.int i3), .val (.int i4), .unset, .unset, .unset, .unset, .unset, .unset, .unset, .unset, .unset, .unset, .unset, .unset, .unset, .unset, .unset] [(.int (i0 &&& (7 : Int32)))])) _
  refine XS.iconst X0.here hx rfl (hb hby at_4) ?_
  show Steps p.tables e below (T0.setTop (mkF m 5 #[.val (.int i0), .val (.int i1), .val (.int i2), .val (.int i3), .val (.int i4), .unset, .unset, .unset, .unset, .unset, .unset, .unset, .unset, .unset, .unset, .unset, .unset, .unset, .unset, .unset] [(.int (5 : Int32)), (.int (i0 &&& (7 : Int32)))])) _
  refine iremM X0 hx rfl (hb hby at_5) rfl (by decide) ?_
  show Steps p.tables e below (T0.setTop (mkF m 6 #[.val (.int i0), .val (.int i1), .val (.int i2), .val (.int i3), .val (.int i4), .unset, .unset, .unset, .unset, .unset, .unset, .unset, .unset, .unset, .unset, .unset, .unset, .unset, .unset, .unset] [(.int ((i0 &&& (7 : Int32)) % (5 : Int32)))])) _
  refine XS.istore X0.here hx rfl (hb hby at_6) rfl (l' := #[.val (.int i0), .val (.int i1), .val (.int i2), .val (.int i3), .val (.int i4), .val (.int ((i0 &&& (7 : Int32)) % (5 : Int32))), .unset, .unset, .unset, .unset, .unset, .unset, .unset, .unset, .unset, .unset, .unset, .unset, .unset, .unset]) rfl ?_
  show Steps p.tables e below (T0.setTop (mkF m 8 #[.val (.int i0), .val (.int i1), .val (.int i2), .val (.int i3), .val (.int i4), .val (.int ((i0 &&& (7 : Int32)) % (5 : Int32))), .unset, .unset, .unset, .unset, .unset, .unset, .unset, .unset, .unset, .unset, .unset, .unset, .unset, .unset] [])) _
  rw [hk6]
  show Steps p.tables e below (T0.setTop (mkF m 8 #[.val (.int i0), .val (.int i1), .val (.int i2), .val (.int i3), .val (.int i4), .val (.int kk6), .unset, .unset, .unset, .unset, .unset, .unset, .unset, .unset, .unset, .unset, .unset, .unset, .unset, .unset] [])) _
  refine XS.iloadN X0.here hx rfl (hb hby at_8) rfl ?_
  show Steps p.tables e below (T0.setTop (mkF m 9 #[.val (.int i0), .val (.int i1), .val (.int i2), .val (.int i3), .val (.int i4), .val (.int kk6), .unset, .unset, .unset, .unset, .unset, .unset, .unset, .unset, .unset, .unset, .unset, .unset, .unset, .unset] [(.int i0)])) _
  refine XS.iconst X0.here hx rfl (hb hby at_9) ?_
  show Steps p.tables e below (T0.setTop (mkF m 10 #[.val (.int i0), .val (.int i1), .val (.int i2), .val (.int i3), .val (.int i4), .val (.int kk6), .unset, .unset, .unset, .unset, .unset, .unset, .unset, .unset, .unset, .unset, .unset, .unset, .unset, .unset] [(.int (3 : Int32)), (.int i0)])) _
  refine XS.iushr X0.here hx rfl (hb hby at_10) rfl ?_
  show Steps p.tables e below (T0.setTop (mkF m 11 #[.val (.int i0), .val (.int i1), .val (.int i2), .val (.int i3), .val (.int i4), .val (.int kk6), .unset, .unset, .unset, .unset, .unset, .unset, .unset, .unset, .unset, .unset, .unset, .unset, .unset, .unset] [(.int ((i0.toUInt32 >>> ((3 : Int32) &&& 31).toUInt32).toInt32))])) _
  refine XS.iconst X0.here hx rfl (hb hby at_11) ?_
  show Steps p.tables e below (T0.setTop (mkF m 12 #[.val (.int i0), .val (.int i1), .val (.int i2), .val (.int i3), .val (.int i4), .val (.int kk6), .unset, .unset, .unset, .unset, .unset, .unset, .unset, .unset, .unset, .unset, .unset, .unset, .unset, .unset] [(.int (3 : Int32)), (.int ((i0.toUInt32 >>> ((3 : Int32) &&& 31).toUInt32).toInt32))])) _
  refine XS.iand X0.here hx rfl (hb hby at_12) rfl ?_
  show Steps p.tables e below (T0.setTop (mkF m 13 #[.val (.int i0), .val (.int i1), .val (.int i2), .val (.int i3), .val (.int i4), .val (.int kk6), .unset, .unset, .unset, .unset, .unset, .unset, .unset, .unset, .unset, .unset, .unset, .unset, .unset, .unset] [(.int (((i0.toUInt32 >>> ((3 : Int32) &&& 31).toUInt32).toInt32) &&& (3 : Int32)))])) _
  refine XS.istore X0.here hx rfl (hb hby at_13) rfl (l' := #[.val (.int i0), .val (.int i1), .val (.int i2), .val (.int i3), .val (.int i4), .val (.int kk6), .val (.int (((i0.toUInt32 >>> ((3 : Int32) &&& 31).toUInt32).toInt32) &&& (3 : Int32))), .unset, .unset, .unset, .unset, .unset, .unset, .unset, .unset, .unset, .unset, .unset, .unset, .unset]) rfl ?_
  show Steps p.tables e below (T0.setTop (mkF m 15 #[.val (.int i0), .val (.int i1), .val (.int i2), .val (.int i3), .val (.int i4), .val (.int kk6), .val (.int (((i0.toUInt32 >>> ((3 : Int32) &&& 31).toUInt32).toInt32) &&& (3 : Int32))), .unset, .unset, .unset, .unset, .unset, .unset, .unset, .unset, .unset, .unset, .unset, .unset, .unset] [])) _
  rw [hk13]
  show Steps p.tables e below (T0.setTop (mkF m 15 #[.val (.int i0), .val (.int i1), .val (.int i2), .val (.int i3), .val (.int i4), .val (.int kk6), .val (.int (1 : Int32)), .unset, .unset, .unset, .unset, .unset, .unset, .unset, .unset, .unset, .unset, .unset, .unset, .unset] [])) _
  refine XS.iconst X0.here hx rfl (hb hby at_15) ?_
  show Steps p.tables e below (T0.setTop (mkF m 16 #[.val (.int i0), .val (.int i1), .val (.int i2), .val (.int i3), .val (.int i4), .val (.int kk6), .val (.int (1 : Int32)), .unset, .unset, .unset, .unset, .unset, .unset, .unset, .unset, .unset, .unset, .unset, .unset, .unset] [(.int (1 : Int32))])) _
  refine XS.iloadN X0.here hx rfl (hb hby at_16) rfl ?_
  show Steps p.tables e below (T0.setTop (mkF m 17 #[.val (.int i0), .val (.int i1), .val (.int i2), .val (.int i3), .val (.int i4), .val (.int kk6), .val (.int (1 : Int32)), .unset, .unset, .unset, .unset, .unset, .unset, .unset, .unset, .unset, .unset, .unset, .unset, .unset] [(.int i1), (.int (1 : Int32))])) _
  refine st6 _ ?_
  show Steps p.tables e below (T6.setTop (mkF m 20 #[.val (.int i0), .val (.int i1), .val (.int i2), .val (.int i3), .val (.int i4), .val (.int kk6), .val (.int (1 : Int32)), .unset, .unset, .unset, .unset, .unset, .unset, .unset, .unset, .unset, .unset, .unset, .unset, .unset] [(.int (F1 i1)), (.int (1 : Int32))])) _
  refine XS.iadd X6.here hx rfl (hb hby at_20) rfl ?_
  show Steps p.tables e below (T6.setTop (mkF m 21 #[.val (.int i0), .val (.int i1), .val (.int i2), .val (.int i3), .val (.int i4), .val (.int kk6), .val (.int (1 : Int32)), .unset, .unset, .unset, .unset, .unset, .unset, .unset, .unset, .unset, .unset, .unset, .unset, .unset] [(.int ((1 : Int32) + (F1 i1)))])) _
  refine XS.istore X6.here hx rfl (hb hby at_21) rfl (l' := #[.val (.int i0), .val (.int i1), .val (.int i2), .val (.int i3), .val (.int i4), .val (.int kk6), .val (.int (1 : Int32)), .val (.int ((1 : Int32) + (F1 i1))), .unset, .unset, .unset, .unset, .unset, .unset, .unset, .unset, .unset, .unset, .unset, .unset]) rfl ?_
  show Steps p.tables e below (T6.setTop (mkF m 23 #[.val (.int i0), .val (.int i1), .val (.int i2), .val (.int i3), .val (.int i4), .val (.int kk6), .val (.int (1 : Int32)), .val (.int ((1 : Int32) + (F1 i1))), .unset, .unset, .unset, .unset, .unset, .unset, .unset, .unset, .unset, .unset, .unset, .unset] [])) _
  rw [hk21]
  show Steps p.tables e below (T6.setTop (mkF m 23 #[.val (.int i0), .val (.int i1), .val (.int i2), .val (.int i3), .val (.int i4), .val (.int kk6), .val (.int (1 : Int32)), .val (.int kk21), .unset, .unset, .unset, .unset, .unset, .unset, .unset, .unset, .unset, .unset, .unset, .unset] [])) _
  refine XS.iload X6.here hx rfl (hb hby at_23) rfl ?_
  show Steps p.tables e below (T6.setTop (mkF m 25 #[.val (.int i0), .val (.int i1), .val (.int i2), .val (.int i3), .val (.int i4), .val (.int kk6), .val (.int (1 : Int32)), .val (.int kk21), .unset, .unset, .unset, .unset, .unset, .unset, .unset, .unset, .unset, .unset, .unset, .unset] [(.int kk21)])) _
  refine XS.iconst X6.here hx rfl (hb hby at_25) ?_
  show Steps p.tables e below (T6.setTop (mkF m 26 #[.val (.int i0), .val (.int i1), .val (.int i2), .val (.int i3), .val (.int i4), .val (.int kk6), .val (.int (1 : Int32)), .val (.int kk21), .unset, .unset, .unset, .unset, .unset, .unset, .unset, .unset, .unset, .unset, .unset, .unset] [(.int (1 : Int32)), (.int kk21)])) _
  refine XS.iadd X6.here hx rfl (hb hby at_26) rfl ?_
  show Steps p.tables e below (T6.setTop (mkF m 27 #[.val (.int i0), .val (.int i1), .val (.int i2), .val (.int i3), .val (.int i4), .val (.int kk6), .val (.int (1 : Int32)), .val (.int kk21), .unset, .unset, .unset, .unset, .unset, .unset, .unset, .unset, .unset, .unset, .unset, .unset] [(.int (kk21 + (1 : Int32)))])) _
  refine XS.iloadN X6.here hx rfl (hb hby at_27) rfl ?_
  show Steps p.tables e below (T6.setTop (mkF m 28 #[.val (.int i0), .val (.int i1), .val (.int i2), .val (.int i3), .val (.int i4), .val (.int kk6), .val (.int (1 : Int32)), .val (.int kk21), .unset, .unset, .unset, .unset, .unset, .unset, .unset, .unset, .unset, .unset, .unset, .unset] [(.int i2), (.int (kk21 + (1 : Int32)))])) _
  refine st7 _ ?_
  show Steps p.tables e below (T7.setTop (mkF m 31 #[.val (.int i0), .val (.int i1), .val (.int i2), .val (.int i3), .val (.int i4), .val (.int kk6), .val (.int (1 : Int32)), .val (.int kk21), .unset, .unset, .unset, .unset, .unset, .unset, .unset, .unset, .unset, .unset, .unset, .unset] [(.int (F1 i2)), (.int (kk21 + (1 : Int32)))])) _
  refine XS.iadd X7.here hx rfl (hb hby at_31) rfl ?_
  show Steps p.tables e below (T7.setTop (mkF m 32 #[.val (.int i0), .val (.int i1), .val (.int i2), .val (.int i3), .val (.int i4), .val (.int kk6), .val (.int (1 : Int32)), .val (.int kk21), .unset, .unset, .unset, .unset, .unset, .unset, .unset, .unset, .unset, .unset, .unset, .unset] [(.int ((kk21 + (1 : Int32)) + (F1 i2)))])) _
  refine XS.istore X7.here hx rfl (hb hby at_32) rfl (l' := #[.val (.int i0), .val (.int i1), .val (.int i2), .val (.int i3), .val (.int i4), .val (.int kk6), .val (.int (1 : Int32)), .val (.int kk21), .val (.int ((kk21 + (1 : Int32)) + (F1 i2))), .unset, .unset, .unset, .unset, .unset, .unset, .unset, .unset, .unset, .unset, .unset]) rfl ?_
  show Steps p.tables e below (T7.setTop (mkF m 34 #[.val (.int i0), .val (.int i1), .val (.int i2), .val (.int i3), .val (.int i4), .val (.int kk6), .val (.int (1 : Int32)), .val (.int kk21), .val (.int ((kk21 + (1 : Int32)) + (F1 i2))), .unset, .unset, .unset, .unset, .unset, .unset, .unset, .unset, .unset, .unset, .unset] [])) _
  rw [hk32]
  show Steps p.tables e below (T7.setTop (mkF m 34 #[.val (.int i0), .val (.int i1), .val (.int i2), .val (.int i3), .val (.int i4), .val (.int kk6), .val (.int (1 : Int32)), .val (.int kk21), .val (.int kk32), .unset, .unset, .unset, .unset, .unset, .unset, .unset, .unset, .unset, .unset, .unset] [])) _
  refine XS.iload X7.here hx rfl (hb hby at_34) rfl ?_
  show Steps p.tables e below (T7.setTop (mkF m 36 #[.val (.int i0), .val (.int i1), .val (.int i2), .val (.int i3), .val (.int i4), .val (.int kk6), .val (.int (1 : Int32)), .val (.int kk21), .val (.int kk32), .unset, .unset, .unset, .unset, .unset, .unset, .unset, .unset, .unset, .unset, .unset] [(.int kk32)])) _
  refine XS.iconst X7.here hx rfl (hb hby at_36) ?_
  show Steps p.tables e below (T7.setTop (mkF m 37 #[.val (.int i0), .val (.int i1), .val (.int i2), .val (.int i3), .val (.int i4), .val (.int kk6), .val (.int (1 : Int32)), .val (.int kk21), .val (.int kk32), .unset, .unset, .unset, .unset, .unset, .unset, .unset, .unset, .unset, .unset, .unset] [(.int (1 : Int32)), (.int kk32)])) _
  refine XS.iadd X7.here hx rfl (hb hby at_37) rfl ?_
  show Steps p.tables e below (T7.setTop (mkF m 38 #[.val (.int i0), .val (.int i1), .val (.int i2), .val (.int i3), .val (.int i4), .val (.int kk6), .val (.int (1 : Int32)), .val (.int kk21), .val (.int kk32), .unset, .unset, .unset, .unset, .unset, .unset, .unset, .unset, .unset, .unset, .unset] [(.int (kk32 + (1 : Int32)))])) _
  refine XS.iloadN X7.here hx rfl (hb hby at_38) rfl ?_
  show Steps p.tables e below (T7.setTop (mkF m 39 #[.val (.int i0), .val (.int i1), .val (.int i2), .val (.int i3), .val (.int i4), .val (.int kk6), .val (.int (1 : Int32)), .val (.int kk21), .val (.int kk32), .unset, .unset, .unset, .unset, .unset, .unset, .unset, .unset, .unset, .unset, .unset] [(.int i3), (.int (kk32 + (1 : Int32)))])) _
  refine st8 _ ?_
  show Steps p.tables e below (T8.setTop (mkF m 42 #[.val (.int i0), .val (.int i1), .val (.int i2), .val (.int i3), .val (.int i4), .val (.int kk6), .val (.int (1 : Int32)), .val (.int kk21), .val (.int kk32), .unset, .unset, .unset, .unset, .unset, .unset, .unset, .unset, .unset, .unset, .unset] [(.int (F1 i3)), (.int (kk32 + (1 : Int32)))])) _
  refine XS.iadd X8.here hx rfl (hb hby at_42) rfl ?_
  show Steps p.tables e below (T8.setTop (mkF m 43 #[.val (.int i0), .val (.int i1), .val (.int i2), .val (.int i3), .val (.int i4), .val (.int kk6), .val (.int (1 : Int32)), .val (.int kk21), .val (.int kk32), .unset, .unset, .unset, .unset, .unset, .unset, .unset, .unset, .unset, .unset, .unset] [(.int ((kk32 + (1 : Int32)) + (F1 i3)))])) _
  refine XS.istore X8.here hx rfl (hb hby at_43) rfl (l' := #[.val (.int i0), .val (.int i1), .val (.int i2), .val (.int i3), .val (.int i4), .val (.int kk6), .val (.int (1 : Int32)), .val (.int kk21), .val (.int kk32), .val (.int ((kk32 + (1 : Int32)) + (F1 i3))), .unset, .unset, .unset, .unset, .unset, .unset, .unset, .unset, .unset, .unset]) rfl ?_
  show Steps p.tables e below (T8.setTop (mkF m 45 #[.val (.int i0), .val (.int i1), .val (.int i2), .val (.int i3), .val (.int i4), .val (.int kk6), .val (.int (1 : Int32)), .val (.int kk21), .val (.int kk32), .val (.int ((kk32 + (1 : Int32)) + (F1 i3))), .unset, .unset, .unset, .unset, .unset, .unset, .unset, .unset, .unset, .unset] [])) _
  rw [hk43]
  show Steps p.tables e below (T8.setTop (mkF m 45 #[.val (.int i0), .val (.int i1), .val (.int i2), .val (.int i3), .val (.int i4), .val (.int kk6), .val (.int (1 : Int32)), .val (.int kk21), .val (.int kk32), .val (.int kk43), .unset, .unset, .unset, .unset, .unset, .unset, .unset, .unset, .unset, .unset] [])) _
  refine XS.iload X8.here hx rfl (hb hby at_45) rfl ?_
  show Steps p.tables e below (T8.setTop (mkF m 47 #[.val (.int i0), .val (.int i1), .val (.int i2), .val (.int i3), .val (.int i4), .val (.int kk6), .val (.int (1 : Int32)), .val (.int kk21), .val (.int kk32), .val (.int kk43), .unset, .unset, .unset, .unset, .unset, .unset, .unset, .unset, .unset, .unset] [(.int (1 : Int32))])) _
  refine XS.iconst X8.here hx rfl (hb hby at_47) ?_
  show Steps p.tables e below (T8.setTop (mkF m 48 #[.val (.int i0), .val (.int i1), .val (.int i2), .val (.int i3), .val (.int i4), .val (.int kk6), .val (.int (1 : Int32)), .val (.int kk21), .val (.int kk32), .val (.int kk43), .unset, .unset, .unset, .unset, .unset, .unset, .unset, .unset, .unset, .unset] [(.int (1 : Int32)), (.int (1 : Int32))])) _
  refine st9 _ ?_
  show Steps p.tables e below (T9.setTop (mkF m 51 #[.val (.int i0), .val (.int i1), .val (.int i2), .val (.int i3), .val (.int i4), .val (.int kk6), .val (.int (1 : Int32)), .val (.int kk21), .val (.int kk32), .val (.int kk43), .unset, .unset, .unset, .unset, .unset, .unset, .unset, .unset, .unset, .unset] [(.int (F2 (1 : Int32) (1 : Int32)))])) _
  refine XS.iload X9.here hx rfl (hb hby at_51) rfl ?_
  show Steps p.tables e below (T9.setTop (mkF m 53 #[.val (.int i0), .val (.int i1), .val (.int i2), .val (.int i3), .val (.int i4), .val (.int kk6), .val (.int (1 : Int32)), .val (.int kk21), .val (.int kk32), .val (.int kk43), .unset, .unset, .unset, .unset, .unset, .unset, .unset, .unset, .unset, .unset] [(.int i4), (.int (F2 (1 : Int32) (1 : Int32)))])) _
  refine X9.ldcInt hx hown (mvT hZ (hw _ (List.mem_of_getElem? (i := 8) rfl))) (g := (mkF m 53 #[.val (.int i0), .val (.int i1), .val (.int i2), .val (.int i3), .val (.int i4), .val (.int kk6), .val (.int (1 : Int32)), .val (.int kk21), .val (.int kk32), .val (.int kk43), .unset, .unset, .unset, .unset, .unset, .unset, .unset, .unset, .unset, .unset] [(.int i4), (.int (F2 (1 : Int32) (1 : Int32)))])) rfl (hb hby at_53) _ ?_
  show Steps p.tables e below (T9.setTop (mkF m 55 #[.val (.int i0), .val (.int i1), .val (.int i2), .val (.int i3), .val (.int i4), .val (.int kk6), .val (.int (1 : Int32)), .val (.int kk21), .val (.int kk32), .val (.int kk43), .unset, .unset, .unset, .unset, .unset, .unset, .unset, .unset, .unset, .unset] [(.int (1073741823 : Int32)), (.int i4), (.int (F2 (1 : Int32) (1 : Int32)))])) _
  refine XS.iand X9.here hx rfl (hb hby at_55) rfl ?_
  show Steps p.tables e below (T9.setTop (mkF m 56 #[.val (.int i0), .val (.int i1), .val (.int i2), .val (.int i3), .val (.int i4), .val (.int kk6), .val (.int (1 : Int32)), .val (.int kk21), .val (.int kk32), .val (.int kk43), .unset, .unset, .unset, .unset, .unset, .unset, .unset, .unset, .unset, .unset] [(.int (i4 &&& (1073741823 : Int32))), (.int (F2 (1 : Int32) (1 : Int32)))])) _
  refine XS.iadd X9.here hx rfl (hb hby at_56) rfl ?_
  show Steps p.tables e below (T9.setTop (mkF m 57 #[.val (.int i0), .val (.int i1), .val (.int i2), .val (.int i3), .val (.int i4), .val (.int kk6), .val (.int (1 : Int32)), .val (.int kk21), .val (.int kk32), .val (.int kk43), .unset, .unset, .unset, .unset, .unset, .unset, .unset, .unset, .unset, .unset] [(.int ((F2 (1 : Int32) (1 : Int32)) + (i4 &&& (1073741823 : Int32))))])) _
  refine XS.istore X9.here hx rfl (hb hby at_57) rfl (l' := #[.val (.int i0), .val (.int i1), .val (.int i2), .val (.int i3), .val (.int i4), .val (.int kk6), .val (.int (1 : Int32)), .val (.int kk21), .val (.int kk32), .val (.int kk43), .val (.int ((F2 (1 : Int32) (1 : Int32)) + (i4 &&& (1073741823 : Int32)))), .unset, .unset, .unset, .unset, .unset, .unset, .unset, .unset, .unset]) rfl ?_
  show Steps p.tables e below (T9.setTop (mkF m 59 #[.val (.int i0), .val (.int i1), .val (.int i2), .val (.int i3), .val (.int i4), .val (.int kk6), .val (.int (1 : Int32)), .val (.int kk21), .val (.int kk32), .val (.int kk43), .val (.int ((F2 (1 : Int32) (1 : Int32)) + (i4 &&& (1073741823 : Int32)))), .unset, .unset, .unset, .unset, .unset, .unset, .unset, .unset, .unset] [])) _
  rw [hk57]
  show Steps p.tables e below (T9.setTop (mkF m 59 #[.val (.int i0), .val (.int i1), .val (.int i2), .val (.int i3), .val (.int i4), .val (.int kk6), .val (.int (1 : Int32)), .val (.int kk21), .val (.int kk32), .val (.int kk43), .val (.int kk57), .unset, .unset, .unset, .unset, .unset, .unset, .unset, .unset, .unset] [])) _
  refine XS.iload X9.here hx rfl (hb hby at_59) rfl ?_
  show Steps p.tables e below (T9.setTop (mkF m 61 #[.val (.int i0), .val (.int i1), .val (.int i2), .val (.int i3), .val (.int i4), .val (.int kk6), .val (.int (1 : Int32)), .val (.int kk21), .val (.int kk32), .val (.int kk43), .val (.int kk57), .unset, .unset, .unset, .unset, .unset, .unset, .unset, .unset, .unset] [(.int (1 : Int32))])) _
  refine st10 _ ?_
  show Steps p.tables e below (T10.setTop (mkF m 63 #[.val (.int i0), .val (.int i1), .val (.int i2), .val (.int i3), .val (.int i4), .val (.int kk6), .val (.int (1 : Int32)), .val (.int kk21), .val (.int kk32), .val (.int kk43), .val (.int kk57), .unset, .unset, .unset, .unset, .unset, .unset, .unset, .unset, .unset] [(.ref b10)])) _
  refine XS.astore X10.here hx rfl (hb hby at_63) rfl rfl (l' := #[.val (.int i0), .val (.int i1), .val (.int i2), .val (.int i3), .val (.int i4), .val (.int kk6), .val (.int (1 : Int32)), .val (.int kk21), .val (.int kk32), .val (.int kk43), .val (.int kk57), .val (.ref b10), .unset, .unset, .unset, .unset, .unset, .unset, .unset, .unset]) rfl ?_
  show Steps p.tables e below (T10.setTop (mkF m 65 #[.val (.int i0), .val (.int i1), .val (.int i2), .val (.int i3), .val (.int i4), .val (.int kk6), .val (.int (1 : Int32)), .val (.int kk21), .val (.int kk32), .val (.int kk43), .val (.int kk57), .val (.ref b10), .unset, .unset, .unset, .unset, .unset, .unset, .unset, .unset] [])) _
  refine XS.iload X10.here hx rfl (hb hby at_65) rfl ?_
  show Steps p.tables e below (T10.setTop (mkF m 67 #[.val (.int i0), .val (.int i1), .val (.int i2), .val (.int i3), .val (.int i4), .val (.int kk6), .val (.int (1 : Int32)), .val (.int kk21), .val (.int kk32), .val (.int kk43), .val (.int kk57), .val (.ref b10), .unset, .unset, .unset, .unset, .unset, .unset, .unset, .unset] [(.int (1 : Int32))])) _
  refine XS.ifNo X10.here hx rfl (hb hby at_67) rfl ((if0 _ _).trans (tlt (by decide : (0 : Int32) < (1 : Int32))).2.2.2) ?_
  show Steps p.tables e below (T10.setTop (mkF m 70 #[.val (.int i0), .val (.int i1), .val (.int i2), .val (.int i3), .val (.int i4), .val (.int kk6), .val (.int (1 : Int32)), .val (.int kk21), .val (.int kk32), .val (.int kk43), .val (.int kk57), .val (.ref b10), .unset, .unset, .unset, .unset, .unset, .unset, .unset, .unset] [])) _
  refine XS.aload X10.here hx rfl (hb hby at_70) rfl rfl ?_
  show Steps p.tables e below (T10.setTop (mkF m 72 #[.val (.int i0), .val (.int i1), .val (.int i2), .val (.int i3), .val (.int i4), .val (.int kk6), .val (.int (1 : Int32)), .val (.int kk21), .val (.int kk32), .val (.int kk43), .val (.int kk57), .val (.ref b10), .unset, .unset, .unset, .unset, .unset, .unset, .unset, .unset] [(.ref b10)])) _
  refine XS.iconst X10.here hx rfl (hb hby at_72) ?_
  show Steps p.tables e below (T10.setTop (mkF m 73 #[.val (.int i0), .val (.int i1), .val (.int i2), .val (.int i3), .val (.int i4), .val (.int kk6), .val (.int (1 : Int32)), .val (.int kk21), .val (.int kk32), .val (.int kk43), .val (.int kk57), .val (.ref b10), .unset, .unset, .unset, .unset, .unset, .unset, .unset, .unset] [(.int (0 : Int32)), (.ref b10)])) _
  refine XS.iload X10.here hx rfl (hb hby at_73) rfl ?_
  show Steps p.tables e below (T10.setTop (mkF m 75 #[.val (.int i0), .val (.int i1), .val (.int i2), .val (.int i3), .val (.int i4), .val (.int kk6), .val (.int (1 : Int32)), .val (.int kk21), .val (.int kk32), .val (.int kk43), .val (.int kk57), .val (.ref b10), .unset, .unset, .unset, .unset, .unset, .unset, .unset, .unset] [(.int kk21), (.int (0 : Int32)), (.ref b10)])) _
  refine st11 _ ?_
  show Steps p.tables e below (T11.setTop (mkF m 76 #[.val (.int i0), .val (.int i1), .val (.int i2), .val (.int i3), .val (.int i4), .val (.int kk6), .val (.int (1 : Int32)), .val (.int kk21), .val (.int kk32), .val (.int kk43), .val (.int kk57), .val (.ref b10), .unset, .unset, .unset, .unset, .unset, .unset, .unset, .unset] [])) _
  refine XS.iload X11.here hx rfl (hb hby at_76) rfl ?_
  show Steps p.tables e below (T11.setTop (mkF m 78 #[.val (.int i0), .val (.int i1), .val (.int i2), .val (.int i3), .val (.int i4), .val (.int kk6), .val (.int (1 : Int32)), .val (.int kk21), .val (.int kk32), .val (.int kk43), .val (.int kk57), .val (.ref b10), .unset, .unset, .unset, .unset, .unset, .unset, .unset, .unset] [(.int (1 : Int32))])) _
  refine XS.iconst X11.here hx rfl (hb hby at_78) ?_
  show Steps p.tables e below (T11.setTop (mkF m 79 #[.val (.int i0), .val (.int i1), .val (.int i2), .val (.int i3), .val (.int i4), .val (.int kk6), .val (.int (1 : Int32)), .val (.int kk21), .val (.int kk32), .val (.int kk43), .val (.int kk57), .val (.ref b10), .unset, .unset, .unset, .unset, .unset, .unset, .unset, .unset] [(.int (1 : Int32)), (.int (1 : Int32))])) _
  refine XS.icmpYes X11.here hx rfl (pc0 := 79) (pc' := 88) rfl (hb hby at_79) rfl (flt (by decide : ¬ ((1 : Int32) < (1 : Int32)))).2.2.2 (by decide) (by decide) ?_
  show Steps p.tables e below (T11.setTop (mkF m 88 #[.val (.int i0), .val (.int i1), .val (.int i2), .val (.int i3), .val (.int i4), .val (.int kk6), .val (.int (1 : Int32)), .val (.int kk21), .val (.int kk32), .val (.int kk43), .val (.int kk57), .val (.ref b10), .unset, .unset, .unset, .unset, .unset, .unset, .unset, .unset] [])) _
  refine XS.iload X11.here hx rfl (hb hby at_88) rfl ?_
  show Steps p.tables e below (T11.setTop (mkF m 90 #[.val (.int i0), .val (.int i1), .val (.int i2), .val (.int i3), .val (.int i4), .val (.int kk6), .val (.int (1 : Int32)), .val (.int kk21), .val (.int kk32), .val (.int kk43), .val (.int kk57), .val (.ref b10), .unset, .unset, .unset, .unset, .unset, .unset, .unset, .unset] [(.int (1 : Int32))])) _
  refine XS.iconst X11.here hx rfl (hb hby at_90) ?_
  show Steps p.tables e below (T11.setTop (mkF m 91 #[.val (.int i0), .val (.int i1), .val (.int i2), .val (.int i3), .val (.int i4), .val (.int kk6), .val (.int (1 : Int32)), .val (.int kk21), .val (.int kk32), .val (.int kk43), .val (.int kk57), .val (.ref b10), .unset, .unset, .unset, .unset, .unset, .unset, .unset, .unset] [(.int (2 : Int32)), (.int (1 : Int32))])) _
  refine XS.icmpYes X11.here hx rfl (pc0 := 91) (pc' := 100) rfl (hb hby at_91) rfl (flt (by decide : ¬ ((2 : Int32) < (1 : Int32)))).2.2.2 (by decide) (by decide) ?_
  exact kt
set_option maxRecDepth 65536 in
set_option maxHeartbeats 40000000 in
theorem s1_2 {p : Program} {l : Launch} {e : Env} {s : State} {m : MethodId} {args : Array Value} {below : List Frame} {meth : Method} {c : Code} {T0 : State} {Z : State} {a0 : Array Value} {h0 : Heap} (n0 : Nat) (Z0 : n0 ≤ h0.size) (i0 : Int32) (i1 : Int32) (i2 : Int32) (i3 : Int32) (i4 : Int32) (kk6 : Int32) (kk21 : Int32) (kk32 : Int32) (kk43 : Int32) (kk57 : Int32)
    (X0 : Stand p l e ({ frames := 5, cells := 16, slots := 128, locals := 128 } : Room) s m args below meth c T0 [] 0 0) (hx : p.tables.exec = Jvm.exec) (hZ : Z.Warmed39 s.vm) (hw : ∀ d ∈ tables_1, d.before a0 Z = true) (hby : c.code = code) (hml : c.maxLocals = 20) (hown : s.vm.findClass "com/example/pesquisa/pesquisa/MeasureScorePinLaw" = some m.cls) (e0 : T0.heap = h0) (hk6 : ((i0 &&& (7 : Int32)) % (5 : Int32)) = kk6) (hk13 : (((i0.toUInt32 >>> ((3 : Int32) &&& 31).toUInt32).toInt32) &&& (3 : Int32)) = (2 : Int32)) (hk21 : ((1 : Int32) + (F1 i1)) = kk21) (hk32 : ((kk21 + (1 : Int32)) + (F1 i2)) = kk32) (hk43 : ((kk32 + (1 : Int32)) + (F1 i3)) = kk43) (hk57 : ((F2 (2 : Int32) (1 : Int32)) + (i4 &&& (1073741823 : Int32))) = kk57) :
    ∃ (T' : State) (h' : Heap) (locs' : List Loc) (b : Addr) (cl_ : Cell), Stand p l e ({ frames := 5, cells := 16, slots := 128, locals := 128 } : Room) s m args below meth c T' locs' 1 2 ∧ T'.heap = h' ∧ (Fr n0 locs' ∧ Keep h0 h' [] ∧ Arr Z h' b cl_ .int ∧ RK 2 cl_ kk21 kk32 kk43) ∧
      ∀ target, Steps p.tables e below (T'.setTop (mkF m 100 #[.val (.int i0), .val (.int i1), .val (.int i2), .val (.int i3), .val (.int i4), .val (.int kk6), .val (.int (2 : Int32)), .val (.int kk21), .val (.int kk32), .val (.int kk43), .val (.int kk57), .val (.ref b), .unset, .unset, .unset, .unset, .unset, .unset, .unset, .unset] [])) target → Steps p.tables e below (T0.setTop (mkF m 0 #[.val (.int i0), .val (.int i1), .val (.int i2), .val (.int i3), .val (.int i4), .unset, .unset, .unset, .unset, .unset, .unset, .unset, .unset, .unset, .unset, .unset, .unset, .unset, .unset, .unset] [])) target := by
  have N0 := Fr.nil n0
  obtain ⟨_, _, ⟨T6, L6, k6, n6⟩, -, X6, ⟨Lc6, hQ6, l6, y6, z6⟩, st6⟩ := Jvm.LawKit.callS X0 hx (y := (⟨"com/example/pesquisa/pesquisa/MeasureScorePinLaw", "gap", "(I)I"⟩ : MethodName)) hown (mvT hZ (hw _ (List.mem_of_getElem? (i := 0) rfl))) (mvT hZ (hw _ (List.mem_of_getElem? (i := 1) rfl))) (mvT hZ (hw _ (List.mem_of_getElem? (i := 2) rfl))) (mvT hZ (hw _ (List.mem_of_getElem? (i := 3) rfl))) (by decide) (backOf (W := 1) (rm1 l Z a0 hw [] i1 h0 n0 Z0) hZ (hw _ (List.mem_of_getElem? (i := 3) rfl)) (hw _ (List.mem_of_getElem? (i := 2) rfl)) (by decide) (by decide)) (g := (mkF m 17 #[.val (.int i0), .val (.int i1), .val (.int i2), .val (.int i3), .val (.int i4), .val (.int kk6), .val (.int (2 : Int32)), .unset, .unset, .unset, .unset, .unset, .unset, .unset, .unset, .unset, .unset, .unset, .unset, .unset] [(.int i1), (.int (1 : Int32))])) rfl (by rw [hml]; rfl) (argsL := [(.int i1)]) (rest := [(.int (1 : Int32))]) (lenOf pd_0_0 rfl) rfl (by show 2 * 0 + _ ≤ _; exact Nat.le_of_eq rfl) (hb hby at_17) (fun _ _ => ⟨rfl, e0, (by decide : 0 + 0 ≤ _), (by decide : 0 + 0 ≤ _)⟩)
  dsimp only [Pt.U, Pt.locs, Pt.cells, Pt.slots] at X6 l6 y6 z6 st6 hQ6
  subst l6 y6 z6
  obtain ⟨rfl, N6q, eh6⟩ := hQ6
  have K6c : Keep h0 T6.heap [] := by rw [eh6]; exact Keep.refl _ _
  have Z6 : n0 ≤ T6.heap.size := Nat.le_trans Z0 K6c.1
  have N6 := Fr.app N0 N6q
  obtain ⟨_, _, ⟨T7, L7, k7, n7⟩, -, X7, ⟨Lc7, hQ7, l7, y7, z7⟩, st7⟩ := Jvm.LawKit.callS X6 hx (y := (⟨"com/example/pesquisa/pesquisa/MeasureScorePinLaw", "gap", "(I)I"⟩ : MethodName)) hown (mvT hZ (hw _ (List.mem_of_getElem? (i := 0) rfl))) (mvT hZ (hw _ (List.mem_of_getElem? (i := 1) rfl))) (mvT hZ (hw _ (List.mem_of_getElem? (i := 2) rfl))) (mvT hZ (hw _ (List.mem_of_getElem? (i := 3) rfl))) (by decide) (backOf (W := 1) (rm1 l Z a0 hw [] i2 T6.heap n0 Z6) hZ (hw _ (List.mem_of_getElem? (i := 3) rfl)) (hw _ (List.mem_of_getElem? (i := 2) rfl)) (by decide) (by decide)) (g := (mkF m 28 #[.val (.int i0), .val (.int i1), .val (.int i2), .val (.int i3), .val (.int i4), .val (.int kk6), .val (.int (2 : Int32)), .val (.int kk21), .unset, .unset, .unset, .unset, .unset, .unset, .unset, .unset, .unset, .unset, .unset, .unset] [(.int i2), (.int (kk21 + (1 : Int32)))])) rfl (by rw [hml]; rfl) (argsL := [(.int i2)]) (rest := [(.int (kk21 + (1 : Int32)))]) (lenOf pd_0_0 rfl) rfl (by show 2 * 0 + _ ≤ _; exact Nat.le_of_eq rfl) (hb hby at_28) (fun _ _ => ⟨rfl, rfl, (by decide : 0 + 0 ≤ _), (by decide : 0 + 0 ≤ _)⟩)
  dsimp only [Pt.U, Pt.locs, Pt.cells, Pt.slots] at X7 l7 y7 z7 st7 hQ7
  subst l7 y7 z7
  obtain ⟨rfl, N7q, eh7⟩ := hQ7
  have K7c : Keep T6.heap T7.heap [] := by rw [eh7]; exact Keep.refl _ _
  have Z7 : n0 ≤ T7.heap.size := Nat.le_trans Z6 K7c.1
  have N7 := Fr.app N6 N7q
  obtain ⟨_, _, ⟨T8, L8, k8, n8⟩, -, X8, ⟨Lc8, hQ8, l8, y8, z8⟩, st8⟩ := Jvm.LawKit.callS X7 hx (y := (⟨"com/example/pesquisa/pesquisa/MeasureScorePinLaw", "gap", "(I)I"⟩ : MethodName)) hown (mvT hZ (hw _ (List.mem_of_getElem? (i := 0) rfl))) (mvT hZ (hw _ (List.mem_of_getElem? (i := 1) rfl))) (mvT hZ (hw _ (List.mem_of_getElem? (i := 2) rfl))) (mvT hZ (hw _ (List.mem_of_getElem? (i := 3) rfl))) (by decide) (backOf (W := 1) (rm1 l Z a0 hw [] i3 T7.heap n0 Z7) hZ (hw _ (List.mem_of_getElem? (i := 3) rfl)) (hw _ (List.mem_of_getElem? (i := 2) rfl)) (by decide) (by decide)) (g := (mkF m 39 #[.val (.int i0), .val (.int i1), .val (.int i2), .val (.int i3), .val (.int i4), .val (.int kk6), .val (.int (2 : Int32)), .val (.int kk21), .val (.int kk32), .unset, .unset, .unset, .unset, .unset, .unset, .unset, .unset, .unset, .unset, .unset] [(.int i3), (.int (kk32 + (1 : Int32)))])) rfl (by rw [hml]; rfl) (argsL := [(.int i3)]) (rest := [(.int (kk32 + (1 : Int32)))]) (lenOf pd_0_0 rfl) rfl (by show 2 * 0 + _ ≤ _; exact Nat.le_of_eq rfl) (hb hby at_39) (fun _ _ => ⟨rfl, rfl, (by decide : 0 + 0 ≤ _), (by decide : 0 + 0 ≤ _)⟩)
  dsimp only [Pt.U, Pt.locs, Pt.cells, Pt.slots] at X8 l8 y8 z8 st8 hQ8
  subst l8 y8 z8
  obtain ⟨rfl, N8q, eh8⟩ := hQ8
  have K8c : Keep T7.heap T8.heap [] := by rw [eh8]; exact Keep.refl _ _
  have Z8 : n0 ≤ T8.heap.size := Nat.le_trans Z7 K8c.1
  have N8 := Fr.app N7 N8q
  obtain ⟨_, _, ⟨T9, L9, k9, n9⟩, -, X9, ⟨Lc9, hQ9, l9, y9, z9⟩, st9⟩ := Jvm.LawKit.callS X8 hx (y := (⟨"java/lang/Math", "max", "(II)I"⟩ : MethodName)) hown (mvT hZ (hw _ (List.mem_of_getElem? (i := 4) rfl))) (mvT hZ (hw _ (List.mem_of_getElem? (i := 5) rfl))) (mvT hZ (hw _ (List.mem_of_getElem? (i := 6) rfl))) (mvT hZ (hw _ (List.mem_of_getElem? (i := 7) rfl))) (by decide) (backOf (W := 0) (rm2 l Z a0 hw [] (2 : Int32) (1 : Int32) T8.heap n0 Z8) hZ (hw _ (List.mem_of_getElem? (i := 7) rfl)) (hw _ (List.mem_of_getElem? (i := 6) rfl)) (by decide) (by decide)) (g := (mkF m 48 #[.val (.int i0), .val (.int i1), .val (.int i2), .val (.int i3), .val (.int i4), .val (.int kk6), .val (.int (2 : Int32)), .val (.int kk21), .val (.int kk32), .val (.int kk43), .unset, .unset, .unset, .unset, .unset, .unset, .unset, .unset, .unset, .unset] [(.int (1 : Int32)), (.int (2 : Int32))])) rfl (by rw [hml]; rfl) (argsL := [(.int (2 : Int32)), (.int (1 : Int32))]) (rest := []) (lenOf pd_0_1 rfl) rfl (by show 2 * 0 + _ ≤ _; exact Nat.le_of_eq rfl) (hb hby at_48) (fun _ _ => ⟨rfl, rfl, (by decide : 0 + 0 ≤ _), (by decide : 0 + 0 ≤ _)⟩)
  dsimp only [Pt.U, Pt.locs, Pt.cells, Pt.slots] at X9 l9 y9 z9 st9 hQ9
  subst l9 y9 z9
  obtain ⟨rfl, N9q, eh9⟩ := hQ9
  have K9c : Keep T8.heap T9.heap [] := by rw [eh9]; exact Keep.refl _ _
  have Z9 : n0 ≤ T9.heap.size := Nat.le_trans Z8 K9c.1
  have N9 := Fr.app N8 N9q
  obtain ⟨T10, h10, k10, X10, e10, E10, A10, st10⟩ := newP X9 hx hZ (hw _ (List.mem_of_getElem? (i := 9) rfl)) rfl (g := (mkF m 61 #[.val (.int i0), .val (.int i1), .val (.int i2), .val (.int i3), .val (.int i4), .val (.int kk6), .val (.int (2 : Int32)), .val (.int kk21), .val (.int kk32), .val (.int kk43), .val (.int kk57), .unset, .unset, .unset, .unset, .unset, .unset, .unset, .unset, .unset] [(.int (2 : Int32))])) rfl (hb hby at_61) rfl (by decide) (cap := 2) (by decide) (by decide) (by decide) (by decide)
  obtain ⟨b10, g10⟩ : ∃ z, z = T9.heap.size := ⟨_, rfl⟩
  rw [← g10] at A10 st10
  have V_b10 : Arv Z h10 b10 k10 .int (2 : Int32) [(.int (0 : Int32)), (.int (0 : Int32))] (.int (0 : Int32)) := (Arv.new A10 (by decide)).pad (pad_rep [] (.int (0 : Int32)) 2)
  have g_b10 : n0 ≤ b10 := Nat.le_trans (Nat.le_trans (Nat.le_trans (Nat.le_trans (Nat.le_trans Z0 K6c.1) K7c.1) K8c.1) K9c.1) (Nat.le_of_eq g10.symm)
  have sz_b10 : h0.size ≤ b10 := (Nat.le_trans (show Keep h0 T9.heap [] by rw [eh9, eh8, eh7, eh6]; exact Keep.refl _ _).1 (Nat.le_of_eq g10.symm))
  have K10 : Keep h0 h10 [] := (show Keep h0 T9.heap [] by rw [eh9, eh8, eh7, eh6]; exact Keep.refl _ _).ext E10
  obtain ⟨cl_b10_75, Ar_b10, q_b10, S_b10, N_b10, H_b10, G_b10⟩ := V_b10
  have hin75 : ¬ ((0 : Int32) < 0 ∨ cl_b10_75.slots.size ≤ ((0 : Int32)).toNatClampNeg) := inb_of S_b10 ⟨by decide, by decide⟩
  obtain ⟨T11, h11, X11, e11, W11, st11⟩ := stI X10 hx hZ e10 Ar_b10 (j := (0 : Int32)) hin75 (g := (mkF m 75 #[.val (.int i0), .val (.int i1), .val (.int i2), .val (.int i3), .val (.int i4), .val (.int kk6), .val (.int (2 : Int32)), .val (.int kk21), .val (.int kk32), .val (.int kk43), .val (.int kk57), .val (.ref b10), .unset, .unset, .unset, .unset, .unset, .unset, .unset, .unset] [(.int kk21), (.int (0 : Int32)), (.ref b10)])) rfl rfl (hb hby at_75)
  have V_b10_11 := Arv.set Ar_b10 q_b10 S_b10 N_b10 H_b10 G_b10 rfl W11 0 rfl (Nat.le_of_ble_eq_true rfl)
  have K11 : Keep h0 h11 [] := K10.wr W11 (Or.inr sz_b10)
  have N11 := Fr.snoc X11 N9 g_b10
  obtain ⟨cl_b10_87, Ar_b10, q_b10, S_b10, N_b10, H_b10, G_b10⟩ := V_b10_11
  have hin87 : ¬ ((1 : Int32) < 0 ∨ cl_b10_87.slots.size ≤ ((1 : Int32)).toNatClampNeg) := inb_of S_b10 ⟨by decide, by decide⟩
  obtain ⟨T12, h12, X12, e12, W12, st12⟩ := stI X11 hx hZ e11 Ar_b10 (j := (1 : Int32)) hin87 (g := (mkF m 87 #[.val (.int i0), .val (.int i1), .val (.int i2), .val (.int i3), .val (.int i4), .val (.int kk6), .val (.int (2 : Int32)), .val (.int kk21), .val (.int kk32), .val (.int kk43), .val (.int kk57), .val (.ref b10), .unset, .unset, .unset, .unset, .unset, .unset, .unset, .unset] [(.int kk32), (.int (1 : Int32)), (.ref b10)])) rfl rfl (hb hby at_87)
  have V_b10_12 := Arv.set Ar_b10 q_b10 S_b10 N_b10 H_b10 G_b10 rfl W12 1 rfl (Nat.le_of_ble_eq_true rfl)
  have K12 : Keep h0 h12 [] := K11.wr W12 (Or.inr sz_b10)
  have N12 := Fr.snoc X12 N11 g_b10
  obtain ⟨clz, Arz, -, Sz, -, Hz, -⟩ := V_b10_12
  refine ⟨T12, _, _, b10, clz, X12, e12, ⟨N12, K12, Arz, ⟨Sz, fun q => ?_, fun q => ?_, fun q => ?_⟩⟩, fun target kt => ?_⟩
  · exact (Hz 0 (by rw [Sz]; decide)).trans rfl
  · exact (Hz 1 (by rw [Sz]; decide)).trans rfl
  · exact absurd q (by decide)
  show Steps p.tables e below (T0.setTop (mkF m 0 #[.val (.int i0), .val (.int i1), .val (.int i2), .val (.int i3), .val (.int i4), .unset, .unset, .unset, .unset, .unset, .unset, .unset, .unset, .unset, .unset, .unset, .unset, .unset, .unset, .unset] [])) _
  refine XS.iloadN X0.here hx rfl (hb hby at_0) rfl ?_
  show Steps p.tables e below (T0.setTop (mkF m 1 #[.val (.int i0), .val (.int i1), .val (.int i2), .val (.int i3), .val (.int i4), .unset, .unset, .unset, .unset, .unset, .unset, .unset, .unset, .unset, .unset, .unset, .unset, .unset, .unset, .unset] [(.int i0)])) _
  refine XS.bipush X0.here hx rfl (hb hby at_1) ?_
  show Steps p.tables e below (T0.setTop (mkF m 3 #[.val (.int i0), .val (.int i1), .val (.int i2), .val (.int i3), .val (.int i4), .unset, .unset, .unset, .unset, .unset, .unset, .unset, .unset, .unset, .unset, .unset, .unset, .unset, .unset, .unset] [(.int (7 : Int32)), (.int i0)])) _
  refine XS.iand X0.here hx rfl (hb hby at_3) rfl ?_
  show Steps p.tables e below (T0.setTop (mkF m 4 #[.val (.int i0), .val (.int i1), .val (.int i2), .val (.int i3), .val (.int i4), .unset, .unset, .unset, .unset, .unset, .unset, .unset, .unset, .unset, .unset, .unset, .unset, .unset, .unset, .unset] [(.int (i0 &&& (7 : Int32)))])) _
  refine XS.iconst X0.here hx rfl (hb hby at_4) ?_
  show Steps p.tables e below (T0.setTop (mkF m 5 #[.val (.int i0), .val (.int i1), .val (.int i2), .val (.int i3), .val (.int i4), .unset, .unset, .unset, .unset, .unset, .unset, .unset, .unset, .unset, .unset, .unset, .unset, .unset, .unset, .unset] [(.int (5 : Int32)), (.int (i0 &&& (7 : Int32)))])) _
  refine iremM X0 hx rfl (hb hby at_5) rfl (by decide) ?_
  show Steps p.tables e below (T0.setTop (mkF m 6 #[.val (.int i0), .val (.int i1), .val (.int i2), .val (.int i3), .val (.int i4), .unset, .unset, .unset, .unset, .unset, .unset, .unset, .unset, .unset, .unset, .unset, .unset, .unset, .unset, .unset] [(.int ((i0 &&& (7 : Int32)) % (5 : Int32)))])) _
  refine XS.istore X0.here hx rfl (hb hby at_6) rfl (l' := #[.val (.int i0), .val (.int i1), .val (.int i2), .val (.int i3), .val (.int i4), .val (.int ((i0 &&& (7 : Int32)) % (5 : Int32))), .unset, .unset, .unset, .unset, .unset, .unset, .unset, .unset, .unset, .unset, .unset, .unset, .unset, .unset]) rfl ?_
  show Steps p.tables e below (T0.setTop (mkF m 8 #[.val (.int i0), .val (.int i1), .val (.int i2), .val (.int i3), .val (.int i4), .val (.int ((i0 &&& (7 : Int32)) % (5 : Int32))), .unset, .unset, .unset, .unset, .unset, .unset, .unset, .unset, .unset, .unset, .unset, .unset, .unset, .unset] [])) _
  rw [hk6]
  show Steps p.tables e below (T0.setTop (mkF m 8 #[.val (.int i0), .val (.int i1), .val (.int i2), .val (.int i3), .val (.int i4), .val (.int kk6), .unset, .unset, .unset, .unset, .unset, .unset, .unset, .unset, .unset, .unset, .unset, .unset, .unset, .unset] [])) _
  refine XS.iloadN X0.here hx rfl (hb hby at_8) rfl ?_
  show Steps p.tables e below (T0.setTop (mkF m 9 #[.val (.int i0), .val (.int i1), .val (.int i2), .val (.int i3), .val (.int i4), .val (.int kk6), .unset, .unset, .unset, .unset, .unset, .unset, .unset, .unset, .unset, .unset, .unset, .unset, .unset, .unset] [(.int i0)])) _
  refine XS.iconst X0.here hx rfl (hb hby at_9) ?_
  show Steps p.tables e below (T0.setTop (mkF m 10 #[.val (.int i0), .val (.int i1), .val (.int i2), .val (.int i3), .val (.int i4), .val (.int kk6), .unset, .unset, .unset, .unset, .unset, .unset, .unset, .unset, .unset, .unset, .unset, .unset, .unset, .unset] [(.int (3 : Int32)), (.int i0)])) _
  refine XS.iushr X0.here hx rfl (hb hby at_10) rfl ?_
  show Steps p.tables e below (T0.setTop (mkF m 11 #[.val (.int i0), .val (.int i1), .val (.int i2), .val (.int i3), .val (.int i4), .val (.int kk6), .unset, .unset, .unset, .unset, .unset, .unset, .unset, .unset, .unset, .unset, .unset, .unset, .unset, .unset] [(.int ((i0.toUInt32 >>> ((3 : Int32) &&& 31).toUInt32).toInt32))])) _
  refine XS.iconst X0.here hx rfl (hb hby at_11) ?_
  show Steps p.tables e below (T0.setTop (mkF m 12 #[.val (.int i0), .val (.int i1), .val (.int i2), .val (.int i3), .val (.int i4), .val (.int kk6), .unset, .unset, .unset, .unset, .unset, .unset, .unset, .unset, .unset, .unset, .unset, .unset, .unset, .unset] [(.int (3 : Int32)), (.int ((i0.toUInt32 >>> ((3 : Int32) &&& 31).toUInt32).toInt32))])) _
  refine XS.iand X0.here hx rfl (hb hby at_12) rfl ?_
  show Steps p.tables e below (T0.setTop (mkF m 13 #[.val (.int i0), .val (.int i1), .val (.int i2), .val (.int i3), .val (.int i4), .val (.int kk6), .unset, .unset, .unset, .unset, .unset, .unset, .unset, .unset, .unset, .unset, .unset, .unset, .unset, .unset] [(.int (((i0.toUInt32 >>> ((3 : Int32) &&& 31).toUInt32).toInt32) &&& (3 : Int32)))])) _
  refine XS.istore X0.here hx rfl (hb hby at_13) rfl (l' := #[.val (.int i0), .val (.int i1), .val (.int i2), .val (.int i3), .val (.int i4), .val (.int kk6), .val (.int (((i0.toUInt32 >>> ((3 : Int32) &&& 31).toUInt32).toInt32) &&& (3 : Int32))), .unset, .unset, .unset, .unset, .unset, .unset, .unset, .unset, .unset, .unset, .unset, .unset, .unset]) rfl ?_
  show Steps p.tables e below (T0.setTop (mkF m 15 #[.val (.int i0), .val (.int i1), .val (.int i2), .val (.int i3), .val (.int i4), .val (.int kk6), .val (.int (((i0.toUInt32 >>> ((3 : Int32) &&& 31).toUInt32).toInt32) &&& (3 : Int32))), .unset, .unset, .unset, .unset, .unset, .unset, .unset, .unset, .unset, .unset, .unset, .unset, .unset] [])) _
  rw [hk13]
  show Steps p.tables e below (T0.setTop (mkF m 15 #[.val (.int i0), .val (.int i1), .val (.int i2), .val (.int i3), .val (.int i4), .val (.int kk6), .val (.int (2 : Int32)), .unset, .unset, .unset, .unset, .unset, .unset, .unset, .unset, .unset, .unset, .unset, .unset, .unset] [])) _
  refine XS.iconst X0.here hx rfl (hb hby at_15) ?_
  show Steps p.tables e below (T0.setTop (mkF m 16 #[.val (.int i0), .val (.int i1), .val (.int i2), .val (.int i3), .val (.int i4), .val (.int kk6), .val (.int (2 : Int32)), .unset, .unset, .unset, .unset, .unset, .unset, .unset, .unset, .unset, .unset, .unset, .unset, .unset] [(.int (1 : Int32))])) _
  refine XS.iloadN X0.here hx rfl (hb hby at_16) rfl ?_
  show Steps p.tables e below (T0.setTop (mkF m 17 #[.val (.int i0), .val (.int i1), .val (.int i2), .val (.int i3), .val (.int i4), .val (.int kk6), .val (.int (2 : Int32)), .unset, .unset, .unset, .unset, .unset, .unset, .unset, .unset, .unset, .unset, .unset, .unset, .unset] [(.int i1), (.int (1 : Int32))])) _
  refine st6 _ ?_
  show Steps p.tables e below (T6.setTop (mkF m 20 #[.val (.int i0), .val (.int i1), .val (.int i2), .val (.int i3), .val (.int i4), .val (.int kk6), .val (.int (2 : Int32)), .unset, .unset, .unset, .unset, .unset, .unset, .unset, .unset, .unset, .unset, .unset, .unset, .unset] [(.int (F1 i1)), (.int (1 : Int32))])) _
  refine XS.iadd X6.here hx rfl (hb hby at_20) rfl ?_
  show Steps p.tables e below (T6.setTop (mkF m 21 #[.val (.int i0), .val (.int i1), .val (.int i2), .val (.int i3), .val (.int i4), .val (.int kk6), .val (.int (2 : Int32)), .unset, .unset, .unset, .unset, .unset, .unset, .unset, .unset, .unset, .unset, .unset, .unset, .unset] [(.int ((1 : Int32) + (F1 i1)))])) _
  refine XS.istore X6.here hx rfl (hb hby at_21) rfl (l' := #[.val (.int i0), .val (.int i1), .val (.int i2), .val (.int i3), .val (.int i4), .val (.int kk6), .val (.int (2 : Int32)), .val (.int ((1 : Int32) + (F1 i1))), .unset, .unset, .unset, .unset, .unset, .unset, .unset, .unset, .unset, .unset, .unset, .unset]) rfl ?_
  show Steps p.tables e below (T6.setTop (mkF m 23 #[.val (.int i0), .val (.int i1), .val (.int i2), .val (.int i3), .val (.int i4), .val (.int kk6), .val (.int (2 : Int32)), .val (.int ((1 : Int32) + (F1 i1))), .unset, .unset, .unset, .unset, .unset, .unset, .unset, .unset, .unset, .unset, .unset, .unset] [])) _
  rw [hk21]
  show Steps p.tables e below (T6.setTop (mkF m 23 #[.val (.int i0), .val (.int i1), .val (.int i2), .val (.int i3), .val (.int i4), .val (.int kk6), .val (.int (2 : Int32)), .val (.int kk21), .unset, .unset, .unset, .unset, .unset, .unset, .unset, .unset, .unset, .unset, .unset, .unset] [])) _
  refine XS.iload X6.here hx rfl (hb hby at_23) rfl ?_
  show Steps p.tables e below (T6.setTop (mkF m 25 #[.val (.int i0), .val (.int i1), .val (.int i2), .val (.int i3), .val (.int i4), .val (.int kk6), .val (.int (2 : Int32)), .val (.int kk21), .unset, .unset, .unset, .unset, .unset, .unset, .unset, .unset, .unset, .unset, .unset, .unset] [(.int kk21)])) _
  refine XS.iconst X6.here hx rfl (hb hby at_25) ?_
  show Steps p.tables e below (T6.setTop (mkF m 26 #[.val (.int i0), .val (.int i1), .val (.int i2), .val (.int i3), .val (.int i4), .val (.int kk6), .val (.int (2 : Int32)), .val (.int kk21), .unset, .unset, .unset, .unset, .unset, .unset, .unset, .unset, .unset, .unset, .unset, .unset] [(.int (1 : Int32)), (.int kk21)])) _
  refine XS.iadd X6.here hx rfl (hb hby at_26) rfl ?_
  show Steps p.tables e below (T6.setTop (mkF m 27 #[.val (.int i0), .val (.int i1), .val (.int i2), .val (.int i3), .val (.int i4), .val (.int kk6), .val (.int (2 : Int32)), .val (.int kk21), .unset, .unset, .unset, .unset, .unset, .unset, .unset, .unset, .unset, .unset, .unset, .unset] [(.int (kk21 + (1 : Int32)))])) _
  refine XS.iloadN X6.here hx rfl (hb hby at_27) rfl ?_
  show Steps p.tables e below (T6.setTop (mkF m 28 #[.val (.int i0), .val (.int i1), .val (.int i2), .val (.int i3), .val (.int i4), .val (.int kk6), .val (.int (2 : Int32)), .val (.int kk21), .unset, .unset, .unset, .unset, .unset, .unset, .unset, .unset, .unset, .unset, .unset, .unset] [(.int i2), (.int (kk21 + (1 : Int32)))])) _
  refine st7 _ ?_
  show Steps p.tables e below (T7.setTop (mkF m 31 #[.val (.int i0), .val (.int i1), .val (.int i2), .val (.int i3), .val (.int i4), .val (.int kk6), .val (.int (2 : Int32)), .val (.int kk21), .unset, .unset, .unset, .unset, .unset, .unset, .unset, .unset, .unset, .unset, .unset, .unset] [(.int (F1 i2)), (.int (kk21 + (1 : Int32)))])) _
  refine XS.iadd X7.here hx rfl (hb hby at_31) rfl ?_
  show Steps p.tables e below (T7.setTop (mkF m 32 #[.val (.int i0), .val (.int i1), .val (.int i2), .val (.int i3), .val (.int i4), .val (.int kk6), .val (.int (2 : Int32)), .val (.int kk21), .unset, .unset, .unset, .unset, .unset, .unset, .unset, .unset, .unset, .unset, .unset, .unset] [(.int ((kk21 + (1 : Int32)) + (F1 i2)))])) _
  refine XS.istore X7.here hx rfl (hb hby at_32) rfl (l' := #[.val (.int i0), .val (.int i1), .val (.int i2), .val (.int i3), .val (.int i4), .val (.int kk6), .val (.int (2 : Int32)), .val (.int kk21), .val (.int ((kk21 + (1 : Int32)) + (F1 i2))), .unset, .unset, .unset, .unset, .unset, .unset, .unset, .unset, .unset, .unset, .unset]) rfl ?_
  show Steps p.tables e below (T7.setTop (mkF m 34 #[.val (.int i0), .val (.int i1), .val (.int i2), .val (.int i3), .val (.int i4), .val (.int kk6), .val (.int (2 : Int32)), .val (.int kk21), .val (.int ((kk21 + (1 : Int32)) + (F1 i2))), .unset, .unset, .unset, .unset, .unset, .unset, .unset, .unset, .unset, .unset, .unset] [])) _
  rw [hk32]
  show Steps p.tables e below (T7.setTop (mkF m 34 #[.val (.int i0), .val (.int i1), .val (.int i2), .val (.int i3), .val (.int i4), .val (.int kk6), .val (.int (2 : Int32)), .val (.int kk21), .val (.int kk32), .unset, .unset, .unset, .unset, .unset, .unset, .unset, .unset, .unset, .unset, .unset] [])) _
  refine XS.iload X7.here hx rfl (hb hby at_34) rfl ?_
  show Steps p.tables e below (T7.setTop (mkF m 36 #[.val (.int i0), .val (.int i1), .val (.int i2), .val (.int i3), .val (.int i4), .val (.int kk6), .val (.int (2 : Int32)), .val (.int kk21), .val (.int kk32), .unset, .unset, .unset, .unset, .unset, .unset, .unset, .unset, .unset, .unset, .unset] [(.int kk32)])) _
  refine XS.iconst X7.here hx rfl (hb hby at_36) ?_
  show Steps p.tables e below (T7.setTop (mkF m 37 #[.val (.int i0), .val (.int i1), .val (.int i2), .val (.int i3), .val (.int i4), .val (.int kk6), .val (.int (2 : Int32)), .val (.int kk21), .val (.int kk32), .unset, .unset, .unset, .unset, .unset, .unset, .unset, .unset, .unset, .unset, .unset] [(.int (1 : Int32)), (.int kk32)])) _
  refine XS.iadd X7.here hx rfl (hb hby at_37) rfl ?_
  show Steps p.tables e below (T7.setTop (mkF m 38 #[.val (.int i0), .val (.int i1), .val (.int i2), .val (.int i3), .val (.int i4), .val (.int kk6), .val (.int (2 : Int32)), .val (.int kk21), .val (.int kk32), .unset, .unset, .unset, .unset, .unset, .unset, .unset, .unset, .unset, .unset, .unset] [(.int (kk32 + (1 : Int32)))])) _
  refine XS.iloadN X7.here hx rfl (hb hby at_38) rfl ?_
  show Steps p.tables e below (T7.setTop (mkF m 39 #[.val (.int i0), .val (.int i1), .val (.int i2), .val (.int i3), .val (.int i4), .val (.int kk6), .val (.int (2 : Int32)), .val (.int kk21), .val (.int kk32), .unset, .unset, .unset, .unset, .unset, .unset, .unset, .unset, .unset, .unset, .unset] [(.int i3), (.int (kk32 + (1 : Int32)))])) _
  refine st8 _ ?_
  show Steps p.tables e below (T8.setTop (mkF m 42 #[.val (.int i0), .val (.int i1), .val (.int i2), .val (.int i3), .val (.int i4), .val (.int kk6), .val (.int (2 : Int32)), .val (.int kk21), .val (.int kk32), .unset, .unset, .unset, .unset, .unset, .unset, .unset, .unset, .unset, .unset, .unset] [(.int (F1 i3)), (.int (kk32 + (1 : Int32)))])) _
  refine XS.iadd X8.here hx rfl (hb hby at_42) rfl ?_
  show Steps p.tables e below (T8.setTop (mkF m 43 #[.val (.int i0), .val (.int i1), .val (.int i2), .val (.int i3), .val (.int i4), .val (.int kk6), .val (.int (2 : Int32)), .val (.int kk21), .val (.int kk32), .unset, .unset, .unset, .unset, .unset, .unset, .unset, .unset, .unset, .unset, .unset] [(.int ((kk32 + (1 : Int32)) + (F1 i3)))])) _
  refine XS.istore X8.here hx rfl (hb hby at_43) rfl (l' := #[.val (.int i0), .val (.int i1), .val (.int i2), .val (.int i3), .val (.int i4), .val (.int kk6), .val (.int (2 : Int32)), .val (.int kk21), .val (.int kk32), .val (.int ((kk32 + (1 : Int32)) + (F1 i3))), .unset, .unset, .unset, .unset, .unset, .unset, .unset, .unset, .unset, .unset]) rfl ?_
  show Steps p.tables e below (T8.setTop (mkF m 45 #[.val (.int i0), .val (.int i1), .val (.int i2), .val (.int i3), .val (.int i4), .val (.int kk6), .val (.int (2 : Int32)), .val (.int kk21), .val (.int kk32), .val (.int ((kk32 + (1 : Int32)) + (F1 i3))), .unset, .unset, .unset, .unset, .unset, .unset, .unset, .unset, .unset, .unset] [])) _
  rw [hk43]
  show Steps p.tables e below (T8.setTop (mkF m 45 #[.val (.int i0), .val (.int i1), .val (.int i2), .val (.int i3), .val (.int i4), .val (.int kk6), .val (.int (2 : Int32)), .val (.int kk21), .val (.int kk32), .val (.int kk43), .unset, .unset, .unset, .unset, .unset, .unset, .unset, .unset, .unset, .unset] [])) _
  refine XS.iload X8.here hx rfl (hb hby at_45) rfl ?_
  show Steps p.tables e below (T8.setTop (mkF m 47 #[.val (.int i0), .val (.int i1), .val (.int i2), .val (.int i3), .val (.int i4), .val (.int kk6), .val (.int (2 : Int32)), .val (.int kk21), .val (.int kk32), .val (.int kk43), .unset, .unset, .unset, .unset, .unset, .unset, .unset, .unset, .unset, .unset] [(.int (2 : Int32))])) _
  refine XS.iconst X8.here hx rfl (hb hby at_47) ?_
  show Steps p.tables e below (T8.setTop (mkF m 48 #[.val (.int i0), .val (.int i1), .val (.int i2), .val (.int i3), .val (.int i4), .val (.int kk6), .val (.int (2 : Int32)), .val (.int kk21), .val (.int kk32), .val (.int kk43), .unset, .unset, .unset, .unset, .unset, .unset, .unset, .unset, .unset, .unset] [(.int (1 : Int32)), (.int (2 : Int32))])) _
  refine st9 _ ?_
  show Steps p.tables e below (T9.setTop (mkF m 51 #[.val (.int i0), .val (.int i1), .val (.int i2), .val (.int i3), .val (.int i4), .val (.int kk6), .val (.int (2 : Int32)), .val (.int kk21), .val (.int kk32), .val (.int kk43), .unset, .unset, .unset, .unset, .unset, .unset, .unset, .unset, .unset, .unset] [(.int (F2 (2 : Int32) (1 : Int32)))])) _
  refine XS.iload X9.here hx rfl (hb hby at_51) rfl ?_
  show Steps p.tables e below (T9.setTop (mkF m 53 #[.val (.int i0), .val (.int i1), .val (.int i2), .val (.int i3), .val (.int i4), .val (.int kk6), .val (.int (2 : Int32)), .val (.int kk21), .val (.int kk32), .val (.int kk43), .unset, .unset, .unset, .unset, .unset, .unset, .unset, .unset, .unset, .unset] [(.int i4), (.int (F2 (2 : Int32) (1 : Int32)))])) _
  refine X9.ldcInt hx hown (mvT hZ (hw _ (List.mem_of_getElem? (i := 8) rfl))) (g := (mkF m 53 #[.val (.int i0), .val (.int i1), .val (.int i2), .val (.int i3), .val (.int i4), .val (.int kk6), .val (.int (2 : Int32)), .val (.int kk21), .val (.int kk32), .val (.int kk43), .unset, .unset, .unset, .unset, .unset, .unset, .unset, .unset, .unset, .unset] [(.int i4), (.int (F2 (2 : Int32) (1 : Int32)))])) rfl (hb hby at_53) _ ?_
  show Steps p.tables e below (T9.setTop (mkF m 55 #[.val (.int i0), .val (.int i1), .val (.int i2), .val (.int i3), .val (.int i4), .val (.int kk6), .val (.int (2 : Int32)), .val (.int kk21), .val (.int kk32), .val (.int kk43), .unset, .unset, .unset, .unset, .unset, .unset, .unset, .unset, .unset, .unset] [(.int (1073741823 : Int32)), (.int i4), (.int (F2 (2 : Int32) (1 : Int32)))])) _
  refine XS.iand X9.here hx rfl (hb hby at_55) rfl ?_
  show Steps p.tables e below (T9.setTop (mkF m 56 #[.val (.int i0), .val (.int i1), .val (.int i2), .val (.int i3), .val (.int i4), .val (.int kk6), .val (.int (2 : Int32)), .val (.int kk21), .val (.int kk32), .val (.int kk43), .unset, .unset, .unset, .unset, .unset, .unset, .unset, .unset, .unset, .unset] [(.int (i4 &&& (1073741823 : Int32))), (.int (F2 (2 : Int32) (1 : Int32)))])) _
  refine XS.iadd X9.here hx rfl (hb hby at_56) rfl ?_
  show Steps p.tables e below (T9.setTop (mkF m 57 #[.val (.int i0), .val (.int i1), .val (.int i2), .val (.int i3), .val (.int i4), .val (.int kk6), .val (.int (2 : Int32)), .val (.int kk21), .val (.int kk32), .val (.int kk43), .unset, .unset, .unset, .unset, .unset, .unset, .unset, .unset, .unset, .unset] [(.int ((F2 (2 : Int32) (1 : Int32)) + (i4 &&& (1073741823 : Int32))))])) _
  refine XS.istore X9.here hx rfl (hb hby at_57) rfl (l' := #[.val (.int i0), .val (.int i1), .val (.int i2), .val (.int i3), .val (.int i4), .val (.int kk6), .val (.int (2 : Int32)), .val (.int kk21), .val (.int kk32), .val (.int kk43), .val (.int ((F2 (2 : Int32) (1 : Int32)) + (i4 &&& (1073741823 : Int32)))), .unset, .unset, .unset, .unset, .unset, .unset, .unset, .unset, .unset]) rfl ?_
  show Steps p.tables e below (T9.setTop (mkF m 59 #[.val (.int i0), .val (.int i1), .val (.int i2), .val (.int i3), .val (.int i4), .val (.int kk6), .val (.int (2 : Int32)), .val (.int kk21), .val (.int kk32), .val (.int kk43), .val (.int ((F2 (2 : Int32) (1 : Int32)) + (i4 &&& (1073741823 : Int32)))), .unset, .unset, .unset, .unset, .unset, .unset, .unset, .unset, .unset] [])) _
  rw [hk57]
  show Steps p.tables e below (T9.setTop (mkF m 59 #[.val (.int i0), .val (.int i1), .val (.int i2), .val (.int i3), .val (.int i4), .val (.int kk6), .val (.int (2 : Int32)), .val (.int kk21), .val (.int kk32), .val (.int kk43), .val (.int kk57), .unset, .unset, .unset, .unset, .unset, .unset, .unset, .unset, .unset] [])) _
  refine XS.iload X9.here hx rfl (hb hby at_59) rfl ?_
  show Steps p.tables e below (T9.setTop (mkF m 61 #[.val (.int i0), .val (.int i1), .val (.int i2), .val (.int i3), .val (.int i4), .val (.int kk6), .val (.int (2 : Int32)), .val (.int kk21), .val (.int kk32), .val (.int kk43), .val (.int kk57), .unset, .unset, .unset, .unset, .unset, .unset, .unset, .unset, .unset] [(.int (2 : Int32))])) _
  refine st10 _ ?_
  show Steps p.tables e below (T10.setTop (mkF m 63 #[.val (.int i0), .val (.int i1), .val (.int i2), .val (.int i3), .val (.int i4), .val (.int kk6), .val (.int (2 : Int32)), .val (.int kk21), .val (.int kk32), .val (.int kk43), .val (.int kk57), .unset, .unset, .unset, .unset, .unset, .unset, .unset, .unset, .unset] [(.ref b10)])) _
  refine XS.astore X10.here hx rfl (hb hby at_63) rfl rfl (l' := #[.val (.int i0), .val (.int i1), .val (.int i2), .val (.int i3), .val (.int i4), .val (.int kk6), .val (.int (2 : Int32)), .val (.int kk21), .val (.int kk32), .val (.int kk43), .val (.int kk57), .val (.ref b10), .unset, .unset, .unset, .unset, .unset, .unset, .unset, .unset]) rfl ?_
  show Steps p.tables e below (T10.setTop (mkF m 65 #[.val (.int i0), .val (.int i1), .val (.int i2), .val (.int i3), .val (.int i4), .val (.int kk6), .val (.int (2 : Int32)), .val (.int kk21), .val (.int kk32), .val (.int kk43), .val (.int kk57), .val (.ref b10), .unset, .unset, .unset, .unset, .unset, .unset, .unset, .unset] [])) _
  refine XS.iload X10.here hx rfl (hb hby at_65) rfl ?_
  show Steps p.tables e below (T10.setTop (mkF m 67 #[.val (.int i0), .val (.int i1), .val (.int i2), .val (.int i3), .val (.int i4), .val (.int kk6), .val (.int (2 : Int32)), .val (.int kk21), .val (.int kk32), .val (.int kk43), .val (.int kk57), .val (.ref b10), .unset, .unset, .unset, .unset, .unset, .unset, .unset, .unset] [(.int (2 : Int32))])) _
  refine XS.ifNo X10.here hx rfl (hb hby at_67) rfl ((if0 _ _).trans (tlt (by decide : (0 : Int32) < (2 : Int32))).2.2.2) ?_
  show Steps p.tables e below (T10.setTop (mkF m 70 #[.val (.int i0), .val (.int i1), .val (.int i2), .val (.int i3), .val (.int i4), .val (.int kk6), .val (.int (2 : Int32)), .val (.int kk21), .val (.int kk32), .val (.int kk43), .val (.int kk57), .val (.ref b10), .unset, .unset, .unset, .unset, .unset, .unset, .unset, .unset] [])) _
  refine XS.aload X10.here hx rfl (hb hby at_70) rfl rfl ?_
  show Steps p.tables e below (T10.setTop (mkF m 72 #[.val (.int i0), .val (.int i1), .val (.int i2), .val (.int i3), .val (.int i4), .val (.int kk6), .val (.int (2 : Int32)), .val (.int kk21), .val (.int kk32), .val (.int kk43), .val (.int kk57), .val (.ref b10), .unset, .unset, .unset, .unset, .unset, .unset, .unset, .unset] [(.ref b10)])) _
  refine XS.iconst X10.here hx rfl (hb hby at_72) ?_
  show Steps p.tables e below (T10.setTop (mkF m 73 #[.val (.int i0), .val (.int i1), .val (.int i2), .val (.int i3), .val (.int i4), .val (.int kk6), .val (.int (2 : Int32)), .val (.int kk21), .val (.int kk32), .val (.int kk43), .val (.int kk57), .val (.ref b10), .unset, .unset, .unset, .unset, .unset, .unset, .unset, .unset] [(.int (0 : Int32)), (.ref b10)])) _
  refine XS.iload X10.here hx rfl (hb hby at_73) rfl ?_
  show Steps p.tables e below (T10.setTop (mkF m 75 #[.val (.int i0), .val (.int i1), .val (.int i2), .val (.int i3), .val (.int i4), .val (.int kk6), .val (.int (2 : Int32)), .val (.int kk21), .val (.int kk32), .val (.int kk43), .val (.int kk57), .val (.ref b10), .unset, .unset, .unset, .unset, .unset, .unset, .unset, .unset] [(.int kk21), (.int (0 : Int32)), (.ref b10)])) _
  refine st11 _ ?_
  show Steps p.tables e below (T11.setTop (mkF m 76 #[.val (.int i0), .val (.int i1), .val (.int i2), .val (.int i3), .val (.int i4), .val (.int kk6), .val (.int (2 : Int32)), .val (.int kk21), .val (.int kk32), .val (.int kk43), .val (.int kk57), .val (.ref b10), .unset, .unset, .unset, .unset, .unset, .unset, .unset, .unset] [])) _
  refine XS.iload X11.here hx rfl (hb hby at_76) rfl ?_
  show Steps p.tables e below (T11.setTop (mkF m 78 #[.val (.int i0), .val (.int i1), .val (.int i2), .val (.int i3), .val (.int i4), .val (.int kk6), .val (.int (2 : Int32)), .val (.int kk21), .val (.int kk32), .val (.int kk43), .val (.int kk57), .val (.ref b10), .unset, .unset, .unset, .unset, .unset, .unset, .unset, .unset] [(.int (2 : Int32))])) _
  refine XS.iconst X11.here hx rfl (hb hby at_78) ?_
  show Steps p.tables e below (T11.setTop (mkF m 79 #[.val (.int i0), .val (.int i1), .val (.int i2), .val (.int i3), .val (.int i4), .val (.int kk6), .val (.int (2 : Int32)), .val (.int kk21), .val (.int kk32), .val (.int kk43), .val (.int kk57), .val (.ref b10), .unset, .unset, .unset, .unset, .unset, .unset, .unset, .unset] [(.int (1 : Int32)), (.int (2 : Int32))])) _
  refine XS.icmpNo X11.here hx rfl (hb hby at_79) rfl (tlt (by decide : (1 : Int32) < (2 : Int32))).2.2.2 ?_
  show Steps p.tables e below (T11.setTop (mkF m 82 #[.val (.int i0), .val (.int i1), .val (.int i2), .val (.int i3), .val (.int i4), .val (.int kk6), .val (.int (2 : Int32)), .val (.int kk21), .val (.int kk32), .val (.int kk43), .val (.int kk57), .val (.ref b10), .unset, .unset, .unset, .unset, .unset, .unset, .unset, .unset] [])) _
  refine XS.aload X11.here hx rfl (hb hby at_82) rfl rfl ?_
  show Steps p.tables e below (T11.setTop (mkF m 84 #[.val (.int i0), .val (.int i1), .val (.int i2), .val (.int i3), .val (.int i4), .val (.int kk6), .val (.int (2 : Int32)), .val (.int kk21), .val (.int kk32), .val (.int kk43), .val (.int kk57), .val (.ref b10), .unset, .unset, .unset, .unset, .unset, .unset, .unset, .unset] [(.ref b10)])) _
  refine XS.iconst X11.here hx rfl (hb hby at_84) ?_
  show Steps p.tables e below (T11.setTop (mkF m 85 #[.val (.int i0), .val (.int i1), .val (.int i2), .val (.int i3), .val (.int i4), .val (.int kk6), .val (.int (2 : Int32)), .val (.int kk21), .val (.int kk32), .val (.int kk43), .val (.int kk57), .val (.ref b10), .unset, .unset, .unset, .unset, .unset, .unset, .unset, .unset] [(.int (1 : Int32)), (.ref b10)])) _
  refine XS.iload X11.here hx rfl (hb hby at_85) rfl ?_
  show Steps p.tables e below (T11.setTop (mkF m 87 #[.val (.int i0), .val (.int i1), .val (.int i2), .val (.int i3), .val (.int i4), .val (.int kk6), .val (.int (2 : Int32)), .val (.int kk21), .val (.int kk32), .val (.int kk43), .val (.int kk57), .val (.ref b10), .unset, .unset, .unset, .unset, .unset, .unset, .unset, .unset] [(.int kk32), (.int (1 : Int32)), (.ref b10)])) _
  refine st12 _ ?_
  show Steps p.tables e below (T12.setTop (mkF m 88 #[.val (.int i0), .val (.int i1), .val (.int i2), .val (.int i3), .val (.int i4), .val (.int kk6), .val (.int (2 : Int32)), .val (.int kk21), .val (.int kk32), .val (.int kk43), .val (.int kk57), .val (.ref b10), .unset, .unset, .unset, .unset, .unset, .unset, .unset, .unset] [])) _
  refine XS.iload X12.here hx rfl (hb hby at_88) rfl ?_
  show Steps p.tables e below (T12.setTop (mkF m 90 #[.val (.int i0), .val (.int i1), .val (.int i2), .val (.int i3), .val (.int i4), .val (.int kk6), .val (.int (2 : Int32)), .val (.int kk21), .val (.int kk32), .val (.int kk43), .val (.int kk57), .val (.ref b10), .unset, .unset, .unset, .unset, .unset, .unset, .unset, .unset] [(.int (2 : Int32))])) _
  refine XS.iconst X12.here hx rfl (hb hby at_90) ?_
  show Steps p.tables e below (T12.setTop (mkF m 91 #[.val (.int i0), .val (.int i1), .val (.int i2), .val (.int i3), .val (.int i4), .val (.int kk6), .val (.int (2 : Int32)), .val (.int kk21), .val (.int kk32), .val (.int kk43), .val (.int kk57), .val (.ref b10), .unset, .unset, .unset, .unset, .unset, .unset, .unset, .unset] [(.int (2 : Int32)), (.int (2 : Int32))])) _
  refine XS.icmpYes X12.here hx rfl (pc0 := 91) (pc' := 100) rfl (hb hby at_91) rfl (flt (by decide : ¬ ((2 : Int32) < (2 : Int32)))).2.2.2 (by decide) (by decide) ?_
  exact kt
set_option maxRecDepth 65536 in
set_option maxHeartbeats 40000000 in
theorem s1_3 {p : Program} {l : Launch} {e : Env} {s : State} {m : MethodId} {args : Array Value} {below : List Frame} {meth : Method} {c : Code} {T0 : State} {Z : State} {a0 : Array Value} {h0 : Heap} (n0 : Nat) (Z0 : n0 ≤ h0.size) (i0 : Int32) (i1 : Int32) (i2 : Int32) (i3 : Int32) (i4 : Int32) (kk6 : Int32) (kk21 : Int32) (kk32 : Int32) (kk43 : Int32) (kk57 : Int32)
    (X0 : Stand p l e ({ frames := 5, cells := 16, slots := 128, locals := 128 } : Room) s m args below meth c T0 [] 0 0) (hx : p.tables.exec = Jvm.exec) (hZ : Z.Warmed39 s.vm) (hw : ∀ d ∈ tables_1, d.before a0 Z = true) (hby : c.code = code) (hml : c.maxLocals = 20) (hown : s.vm.findClass "com/example/pesquisa/pesquisa/MeasureScorePinLaw" = some m.cls) (e0 : T0.heap = h0) (hk6 : ((i0 &&& (7 : Int32)) % (5 : Int32)) = kk6) (hk13 : (((i0.toUInt32 >>> ((3 : Int32) &&& 31).toUInt32).toInt32) &&& (3 : Int32)) = (3 : Int32)) (hk21 : ((1 : Int32) + (F1 i1)) = kk21) (hk32 : ((kk21 + (1 : Int32)) + (F1 i2)) = kk32) (hk43 : ((kk32 + (1 : Int32)) + (F1 i3)) = kk43) (hk57 : ((F2 (3 : Int32) (1 : Int32)) + (i4 &&& (1073741823 : Int32))) = kk57) :
    ∃ (T' : State) (h' : Heap) (locs' : List Loc) (b : Addr) (cl_ : Cell), Stand p l e ({ frames := 5, cells := 16, slots := 128, locals := 128 } : Room) s m args below meth c T' locs' 1 3 ∧ T'.heap = h' ∧ (Fr n0 locs' ∧ Keep h0 h' [] ∧ Arr Z h' b cl_ .int ∧ RK 3 cl_ kk21 kk32 kk43) ∧
      ∀ target, Steps p.tables e below (T'.setTop (mkF m 100 #[.val (.int i0), .val (.int i1), .val (.int i2), .val (.int i3), .val (.int i4), .val (.int kk6), .val (.int (3 : Int32)), .val (.int kk21), .val (.int kk32), .val (.int kk43), .val (.int kk57), .val (.ref b), .unset, .unset, .unset, .unset, .unset, .unset, .unset, .unset] [])) target → Steps p.tables e below (T0.setTop (mkF m 0 #[.val (.int i0), .val (.int i1), .val (.int i2), .val (.int i3), .val (.int i4), .unset, .unset, .unset, .unset, .unset, .unset, .unset, .unset, .unset, .unset, .unset, .unset, .unset, .unset, .unset] [])) target := by
  have N0 := Fr.nil n0
  obtain ⟨_, _, ⟨T6, L6, k6, n6⟩, -, X6, ⟨Lc6, hQ6, l6, y6, z6⟩, st6⟩ := Jvm.LawKit.callS X0 hx (y := (⟨"com/example/pesquisa/pesquisa/MeasureScorePinLaw", "gap", "(I)I"⟩ : MethodName)) hown (mvT hZ (hw _ (List.mem_of_getElem? (i := 0) rfl))) (mvT hZ (hw _ (List.mem_of_getElem? (i := 1) rfl))) (mvT hZ (hw _ (List.mem_of_getElem? (i := 2) rfl))) (mvT hZ (hw _ (List.mem_of_getElem? (i := 3) rfl))) (by decide) (backOf (W := 1) (rm1 l Z a0 hw [] i1 h0 n0 Z0) hZ (hw _ (List.mem_of_getElem? (i := 3) rfl)) (hw _ (List.mem_of_getElem? (i := 2) rfl)) (by decide) (by decide)) (g := (mkF m 17 #[.val (.int i0), .val (.int i1), .val (.int i2), .val (.int i3), .val (.int i4), .val (.int kk6), .val (.int (3 : Int32)), .unset, .unset, .unset, .unset, .unset, .unset, .unset, .unset, .unset, .unset, .unset, .unset, .unset] [(.int i1), (.int (1 : Int32))])) rfl (by rw [hml]; rfl) (argsL := [(.int i1)]) (rest := [(.int (1 : Int32))]) (lenOf pd_0_0 rfl) rfl (by show 2 * 0 + _ ≤ _; exact Nat.le_of_eq rfl) (hb hby at_17) (fun _ _ => ⟨rfl, e0, (by decide : 0 + 0 ≤ _), (by decide : 0 + 0 ≤ _)⟩)
  dsimp only [Pt.U, Pt.locs, Pt.cells, Pt.slots] at X6 l6 y6 z6 st6 hQ6
  subst l6 y6 z6
  obtain ⟨rfl, N6q, eh6⟩ := hQ6
  have K6c : Keep h0 T6.heap [] := by rw [eh6]; exact Keep.refl _ _
  have Z6 : n0 ≤ T6.heap.size := Nat.le_trans Z0 K6c.1
  have N6 := Fr.app N0 N6q
  obtain ⟨_, _, ⟨T7, L7, k7, n7⟩, -, X7, ⟨Lc7, hQ7, l7, y7, z7⟩, st7⟩ := Jvm.LawKit.callS X6 hx (y := (⟨"com/example/pesquisa/pesquisa/MeasureScorePinLaw", "gap", "(I)I"⟩ : MethodName)) hown (mvT hZ (hw _ (List.mem_of_getElem? (i := 0) rfl))) (mvT hZ (hw _ (List.mem_of_getElem? (i := 1) rfl))) (mvT hZ (hw _ (List.mem_of_getElem? (i := 2) rfl))) (mvT hZ (hw _ (List.mem_of_getElem? (i := 3) rfl))) (by decide) (backOf (W := 1) (rm1 l Z a0 hw [] i2 T6.heap n0 Z6) hZ (hw _ (List.mem_of_getElem? (i := 3) rfl)) (hw _ (List.mem_of_getElem? (i := 2) rfl)) (by decide) (by decide)) (g := (mkF m 28 #[.val (.int i0), .val (.int i1), .val (.int i2), .val (.int i3), .val (.int i4), .val (.int kk6), .val (.int (3 : Int32)), .val (.int kk21), .unset, .unset, .unset, .unset, .unset, .unset, .unset, .unset, .unset, .unset, .unset, .unset] [(.int i2), (.int (kk21 + (1 : Int32)))])) rfl (by rw [hml]; rfl) (argsL := [(.int i2)]) (rest := [(.int (kk21 + (1 : Int32)))]) (lenOf pd_0_0 rfl) rfl (by show 2 * 0 + _ ≤ _; exact Nat.le_of_eq rfl) (hb hby at_28) (fun _ _ => ⟨rfl, rfl, (by decide : 0 + 0 ≤ _), (by decide : 0 + 0 ≤ _)⟩)
  dsimp only [Pt.U, Pt.locs, Pt.cells, Pt.slots] at X7 l7 y7 z7 st7 hQ7
  subst l7 y7 z7
  obtain ⟨rfl, N7q, eh7⟩ := hQ7
  have K7c : Keep T6.heap T7.heap [] := by rw [eh7]; exact Keep.refl _ _
  have Z7 : n0 ≤ T7.heap.size := Nat.le_trans Z6 K7c.1
  have N7 := Fr.app N6 N7q
  obtain ⟨_, _, ⟨T8, L8, k8, n8⟩, -, X8, ⟨Lc8, hQ8, l8, y8, z8⟩, st8⟩ := Jvm.LawKit.callS X7 hx (y := (⟨"com/example/pesquisa/pesquisa/MeasureScorePinLaw", "gap", "(I)I"⟩ : MethodName)) hown (mvT hZ (hw _ (List.mem_of_getElem? (i := 0) rfl))) (mvT hZ (hw _ (List.mem_of_getElem? (i := 1) rfl))) (mvT hZ (hw _ (List.mem_of_getElem? (i := 2) rfl))) (mvT hZ (hw _ (List.mem_of_getElem? (i := 3) rfl))) (by decide) (backOf (W := 1) (rm1 l Z a0 hw [] i3 T7.heap n0 Z7) hZ (hw _ (List.mem_of_getElem? (i := 3) rfl)) (hw _ (List.mem_of_getElem? (i := 2) rfl)) (by decide) (by decide)) (g := (mkF m 39 #[.val (.int i0), .val (.int i1), .val (.int i2), .val (.int i3), .val (.int i4), .val (.int kk6), .val (.int (3 : Int32)), .val (.int kk21), .val (.int kk32), .unset, .unset, .unset, .unset, .unset, .unset, .unset, .unset, .unset, .unset, .unset] [(.int i3), (.int (kk32 + (1 : Int32)))])) rfl (by rw [hml]; rfl) (argsL := [(.int i3)]) (rest := [(.int (kk32 + (1 : Int32)))]) (lenOf pd_0_0 rfl) rfl (by show 2 * 0 + _ ≤ _; exact Nat.le_of_eq rfl) (hb hby at_39) (fun _ _ => ⟨rfl, rfl, (by decide : 0 + 0 ≤ _), (by decide : 0 + 0 ≤ _)⟩)
  dsimp only [Pt.U, Pt.locs, Pt.cells, Pt.slots] at X8 l8 y8 z8 st8 hQ8
  subst l8 y8 z8
  obtain ⟨rfl, N8q, eh8⟩ := hQ8
  have K8c : Keep T7.heap T8.heap [] := by rw [eh8]; exact Keep.refl _ _
  have Z8 : n0 ≤ T8.heap.size := Nat.le_trans Z7 K8c.1
  have N8 := Fr.app N7 N8q
  obtain ⟨_, _, ⟨T9, L9, k9, n9⟩, -, X9, ⟨Lc9, hQ9, l9, y9, z9⟩, st9⟩ := Jvm.LawKit.callS X8 hx (y := (⟨"java/lang/Math", "max", "(II)I"⟩ : MethodName)) hown (mvT hZ (hw _ (List.mem_of_getElem? (i := 4) rfl))) (mvT hZ (hw _ (List.mem_of_getElem? (i := 5) rfl))) (mvT hZ (hw _ (List.mem_of_getElem? (i := 6) rfl))) (mvT hZ (hw _ (List.mem_of_getElem? (i := 7) rfl))) (by decide) (backOf (W := 0) (rm2 l Z a0 hw [] (3 : Int32) (1 : Int32) T8.heap n0 Z8) hZ (hw _ (List.mem_of_getElem? (i := 7) rfl)) (hw _ (List.mem_of_getElem? (i := 6) rfl)) (by decide) (by decide)) (g := (mkF m 48 #[.val (.int i0), .val (.int i1), .val (.int i2), .val (.int i3), .val (.int i4), .val (.int kk6), .val (.int (3 : Int32)), .val (.int kk21), .val (.int kk32), .val (.int kk43), .unset, .unset, .unset, .unset, .unset, .unset, .unset, .unset, .unset, .unset] [(.int (1 : Int32)), (.int (3 : Int32))])) rfl (by rw [hml]; rfl) (argsL := [(.int (3 : Int32)), (.int (1 : Int32))]) (rest := []) (lenOf pd_0_1 rfl) rfl (by show 2 * 0 + _ ≤ _; exact Nat.le_of_eq rfl) (hb hby at_48) (fun _ _ => ⟨rfl, rfl, (by decide : 0 + 0 ≤ _), (by decide : 0 + 0 ≤ _)⟩)
  dsimp only [Pt.U, Pt.locs, Pt.cells, Pt.slots] at X9 l9 y9 z9 st9 hQ9
  subst l9 y9 z9
  obtain ⟨rfl, N9q, eh9⟩ := hQ9
  have K9c : Keep T8.heap T9.heap [] := by rw [eh9]; exact Keep.refl _ _
  have Z9 : n0 ≤ T9.heap.size := Nat.le_trans Z8 K9c.1
  have N9 := Fr.app N8 N9q
  obtain ⟨T10, h10, k10, X10, e10, E10, A10, st10⟩ := newP X9 hx hZ (hw _ (List.mem_of_getElem? (i := 9) rfl)) rfl (g := (mkF m 61 #[.val (.int i0), .val (.int i1), .val (.int i2), .val (.int i3), .val (.int i4), .val (.int kk6), .val (.int (3 : Int32)), .val (.int kk21), .val (.int kk32), .val (.int kk43), .val (.int kk57), .unset, .unset, .unset, .unset, .unset, .unset, .unset, .unset, .unset] [(.int (3 : Int32))])) rfl (hb hby at_61) rfl (by decide) (cap := 3) (by decide) (by decide) (by decide) (by decide)
  obtain ⟨b10, g10⟩ : ∃ z, z = T9.heap.size := ⟨_, rfl⟩
  rw [← g10] at A10 st10
  have V_b10 : Arv Z h10 b10 k10 .int (3 : Int32) [(.int (0 : Int32)), (.int (0 : Int32)), (.int (0 : Int32))] (.int (0 : Int32)) := (Arv.new A10 (by decide)).pad (pad_rep [] (.int (0 : Int32)) 3)
  have g_b10 : n0 ≤ b10 := Nat.le_trans (Nat.le_trans (Nat.le_trans (Nat.le_trans (Nat.le_trans Z0 K6c.1) K7c.1) K8c.1) K9c.1) (Nat.le_of_eq g10.symm)
  have sz_b10 : h0.size ≤ b10 := (Nat.le_trans (show Keep h0 T9.heap [] by rw [eh9, eh8, eh7, eh6]; exact Keep.refl _ _).1 (Nat.le_of_eq g10.symm))
  have K10 : Keep h0 h10 [] := (show Keep h0 T9.heap [] by rw [eh9, eh8, eh7, eh6]; exact Keep.refl _ _).ext E10
  obtain ⟨cl_b10_75, Ar_b10, q_b10, S_b10, N_b10, H_b10, G_b10⟩ := V_b10
  have hin75 : ¬ ((0 : Int32) < 0 ∨ cl_b10_75.slots.size ≤ ((0 : Int32)).toNatClampNeg) := inb_of S_b10 ⟨by decide, by decide⟩
  obtain ⟨T11, h11, X11, e11, W11, st11⟩ := stI X10 hx hZ e10 Ar_b10 (j := (0 : Int32)) hin75 (g := (mkF m 75 #[.val (.int i0), .val (.int i1), .val (.int i2), .val (.int i3), .val (.int i4), .val (.int kk6), .val (.int (3 : Int32)), .val (.int kk21), .val (.int kk32), .val (.int kk43), .val (.int kk57), .val (.ref b10), .unset, .unset, .unset, .unset, .unset, .unset, .unset, .unset] [(.int kk21), (.int (0 : Int32)), (.ref b10)])) rfl rfl (hb hby at_75)
  have V_b10_11 := Arv.set Ar_b10 q_b10 S_b10 N_b10 H_b10 G_b10 rfl W11 0 rfl (Nat.le_of_ble_eq_true rfl)
  have K11 : Keep h0 h11 [] := K10.wr W11 (Or.inr sz_b10)
  have N11 := Fr.snoc X11 N9 g_b10
  obtain ⟨cl_b10_87, Ar_b10, q_b10, S_b10, N_b10, H_b10, G_b10⟩ := V_b10_11
  have hin87 : ¬ ((1 : Int32) < 0 ∨ cl_b10_87.slots.size ≤ ((1 : Int32)).toNatClampNeg) := inb_of S_b10 ⟨by decide, by decide⟩
  obtain ⟨T12, h12, X12, e12, W12, st12⟩ := stI X11 hx hZ e11 Ar_b10 (j := (1 : Int32)) hin87 (g := (mkF m 87 #[.val (.int i0), .val (.int i1), .val (.int i2), .val (.int i3), .val (.int i4), .val (.int kk6), .val (.int (3 : Int32)), .val (.int kk21), .val (.int kk32), .val (.int kk43), .val (.int kk57), .val (.ref b10), .unset, .unset, .unset, .unset, .unset, .unset, .unset, .unset] [(.int kk32), (.int (1 : Int32)), (.ref b10)])) rfl rfl (hb hby at_87)
  have V_b10_12 := Arv.set Ar_b10 q_b10 S_b10 N_b10 H_b10 G_b10 rfl W12 1 rfl (Nat.le_of_ble_eq_true rfl)
  have K12 : Keep h0 h12 [] := K11.wr W12 (Or.inr sz_b10)
  have N12 := Fr.snoc X12 N11 g_b10
  obtain ⟨cl_b10_99, Ar_b10, q_b10, S_b10, N_b10, H_b10, G_b10⟩ := V_b10_12
  have hin99 : ¬ ((2 : Int32) < 0 ∨ cl_b10_99.slots.size ≤ ((2 : Int32)).toNatClampNeg) := inb_of S_b10 ⟨by decide, by decide⟩
  obtain ⟨T13, h13, X13, e13, W13, st13⟩ := stI X12 hx hZ e12 Ar_b10 (j := (2 : Int32)) hin99 (g := (mkF m 99 #[.val (.int i0), .val (.int i1), .val (.int i2), .val (.int i3), .val (.int i4), .val (.int kk6), .val (.int (3 : Int32)), .val (.int kk21), .val (.int kk32), .val (.int kk43), .val (.int kk57), .val (.ref b10), .unset, .unset, .unset, .unset, .unset, .unset, .unset, .unset] [(.int kk43), (.int (2 : Int32)), (.ref b10)])) rfl rfl (hb hby at_99)
  have V_b10_13 := Arv.set Ar_b10 q_b10 S_b10 N_b10 H_b10 G_b10 rfl W13 2 rfl (Nat.le_of_ble_eq_true rfl)
  have K13 : Keep h0 h13 [] := K12.wr W13 (Or.inr sz_b10)
  have N13 := Fr.snoc X13 N12 g_b10
  obtain ⟨clz, Arz, -, Sz, -, Hz, -⟩ := V_b10_13
  refine ⟨T13, _, _, b10, clz, X13, e13, ⟨N13, K13, Arz, ⟨Sz, fun q => ?_, fun q => ?_, fun q => ?_⟩⟩, fun target kt => ?_⟩
  · exact (Hz 0 (by rw [Sz]; decide)).trans rfl
  · exact (Hz 1 (by rw [Sz]; decide)).trans rfl
  · exact (Hz 2 (by rw [Sz]; decide)).trans rfl
  show Steps p.tables e below (T0.setTop (mkF m 0 #[.val (.int i0), .val (.int i1), .val (.int i2), .val (.int i3), .val (.int i4), .unset, .unset, .unset, .unset, .unset, .unset, .unset, .unset, .unset, .unset, .unset, .unset, .unset, .unset, .unset] [])) _
  refine XS.iloadN X0.here hx rfl (hb hby at_0) rfl ?_
  show Steps p.tables e below (T0.setTop (mkF m 1 #[.val (.int i0), .val (.int i1), .val (.int i2), .val (.int i3), .val (.int i4), .unset, .unset, .unset, .unset, .unset, .unset, .unset, .unset, .unset, .unset, .unset, .unset, .unset, .unset, .unset] [(.int i0)])) _
  refine XS.bipush X0.here hx rfl (hb hby at_1) ?_
  show Steps p.tables e below (T0.setTop (mkF m 3 #[.val (.int i0), .val (.int i1), .val (.int i2), .val (.int i3), .val (.int i4), .unset, .unset, .unset, .unset, .unset, .unset, .unset, .unset, .unset, .unset, .unset, .unset, .unset, .unset, .unset] [(.int (7 : Int32)), (.int i0)])) _
  refine XS.iand X0.here hx rfl (hb hby at_3) rfl ?_
  show Steps p.tables e below (T0.setTop (mkF m 4 #[.val (.int i0), .val (.int i1), .val (.int i2), .val (.int i3), .val (.int i4), .unset, .unset, .unset, .unset, .unset, .unset, .unset, .unset, .unset, .unset, .unset, .unset, .unset, .unset, .unset] [(.int (i0 &&& (7 : Int32)))])) _
  refine XS.iconst X0.here hx rfl (hb hby at_4) ?_
  show Steps p.tables e below (T0.setTop (mkF m 5 #[.val (.int i0), .val (.int i1), .val (.int i2), .val (.int i3), .val (.int i4), .unset, .unset, .unset, .unset, .unset, .unset, .unset, .unset, .unset, .unset, .unset, .unset, .unset, .unset, .unset] [(.int (5 : Int32)), (.int (i0 &&& (7 : Int32)))])) _
  refine iremM X0 hx rfl (hb hby at_5) rfl (by decide) ?_
  show Steps p.tables e below (T0.setTop (mkF m 6 #[.val (.int i0), .val (.int i1), .val (.int i2), .val (.int i3), .val (.int i4), .unset, .unset, .unset, .unset, .unset, .unset, .unset, .unset, .unset, .unset, .unset, .unset, .unset, .unset, .unset] [(.int ((i0 &&& (7 : Int32)) % (5 : Int32)))])) _
  refine XS.istore X0.here hx rfl (hb hby at_6) rfl (l' := #[.val (.int i0), .val (.int i1), .val (.int i2), .val (.int i3), .val (.int i4), .val (.int ((i0 &&& (7 : Int32)) % (5 : Int32))), .unset, .unset, .unset, .unset, .unset, .unset, .unset, .unset, .unset, .unset, .unset, .unset, .unset, .unset]) rfl ?_
  show Steps p.tables e below (T0.setTop (mkF m 8 #[.val (.int i0), .val (.int i1), .val (.int i2), .val (.int i3), .val (.int i4), .val (.int ((i0 &&& (7 : Int32)) % (5 : Int32))), .unset, .unset, .unset, .unset, .unset, .unset, .unset, .unset, .unset, .unset, .unset, .unset, .unset, .unset] [])) _
  rw [hk6]
  show Steps p.tables e below (T0.setTop (mkF m 8 #[.val (.int i0), .val (.int i1), .val (.int i2), .val (.int i3), .val (.int i4), .val (.int kk6), .unset, .unset, .unset, .unset, .unset, .unset, .unset, .unset, .unset, .unset, .unset, .unset, .unset, .unset] [])) _
  refine XS.iloadN X0.here hx rfl (hb hby at_8) rfl ?_
  show Steps p.tables e below (T0.setTop (mkF m 9 #[.val (.int i0), .val (.int i1), .val (.int i2), .val (.int i3), .val (.int i4), .val (.int kk6), .unset, .unset, .unset, .unset, .unset, .unset, .unset, .unset, .unset, .unset, .unset, .unset, .unset, .unset] [(.int i0)])) _
  refine XS.iconst X0.here hx rfl (hb hby at_9) ?_
  show Steps p.tables e below (T0.setTop (mkF m 10 #[.val (.int i0), .val (.int i1), .val (.int i2), .val (.int i3), .val (.int i4), .val (.int kk6), .unset, .unset, .unset, .unset, .unset, .unset, .unset, .unset, .unset, .unset, .unset, .unset, .unset, .unset] [(.int (3 : Int32)), (.int i0)])) _
  refine XS.iushr X0.here hx rfl (hb hby at_10) rfl ?_
  show Steps p.tables e below (T0.setTop (mkF m 11 #[.val (.int i0), .val (.int i1), .val (.int i2), .val (.int i3), .val (.int i4), .val (.int kk6), .unset, .unset, .unset, .unset, .unset, .unset, .unset, .unset, .unset, .unset, .unset, .unset, .unset, .unset] [(.int ((i0.toUInt32 >>> ((3 : Int32) &&& 31).toUInt32).toInt32))])) _
  refine XS.iconst X0.here hx rfl (hb hby at_11) ?_
  show Steps p.tables e below (T0.setTop (mkF m 12 #[.val (.int i0), .val (.int i1), .val (.int i2), .val (.int i3), .val (.int i4), .val (.int kk6), .unset, .unset, .unset, .unset, .unset, .unset, .unset, .unset, .unset, .unset, .unset, .unset, .unset, .unset] [(.int (3 : Int32)), (.int ((i0.toUInt32 >>> ((3 : Int32) &&& 31).toUInt32).toInt32))])) _
  refine XS.iand X0.here hx rfl (hb hby at_12) rfl ?_
  show Steps p.tables e below (T0.setTop (mkF m 13 #[.val (.int i0), .val (.int i1), .val (.int i2), .val (.int i3), .val (.int i4), .val (.int kk6), .unset, .unset, .unset, .unset, .unset, .unset, .unset, .unset, .unset, .unset, .unset, .unset, .unset, .unset] [(.int (((i0.toUInt32 >>> ((3 : Int32) &&& 31).toUInt32).toInt32) &&& (3 : Int32)))])) _
  refine XS.istore X0.here hx rfl (hb hby at_13) rfl (l' := #[.val (.int i0), .val (.int i1), .val (.int i2), .val (.int i3), .val (.int i4), .val (.int kk6), .val (.int (((i0.toUInt32 >>> ((3 : Int32) &&& 31).toUInt32).toInt32) &&& (3 : Int32))), .unset, .unset, .unset, .unset, .unset, .unset, .unset, .unset, .unset, .unset, .unset, .unset, .unset]) rfl ?_
  show Steps p.tables e below (T0.setTop (mkF m 15 #[.val (.int i0), .val (.int i1), .val (.int i2), .val (.int i3), .val (.int i4), .val (.int kk6), .val (.int (((i0.toUInt32 >>> ((3 : Int32) &&& 31).toUInt32).toInt32) &&& (3 : Int32))), .unset, .unset, .unset, .unset, .unset, .unset, .unset, .unset, .unset, .unset, .unset, .unset, .unset] [])) _
  rw [hk13]
  show Steps p.tables e below (T0.setTop (mkF m 15 #[.val (.int i0), .val (.int i1), .val (.int i2), .val (.int i3), .val (.int i4), .val (.int kk6), .val (.int (3 : Int32)), .unset, .unset, .unset, .unset, .unset, .unset, .unset, .unset, .unset, .unset, .unset, .unset, .unset] [])) _
  refine XS.iconst X0.here hx rfl (hb hby at_15) ?_
  show Steps p.tables e below (T0.setTop (mkF m 16 #[.val (.int i0), .val (.int i1), .val (.int i2), .val (.int i3), .val (.int i4), .val (.int kk6), .val (.int (3 : Int32)), .unset, .unset, .unset, .unset, .unset, .unset, .unset, .unset, .unset, .unset, .unset, .unset, .unset] [(.int (1 : Int32))])) _
  refine XS.iloadN X0.here hx rfl (hb hby at_16) rfl ?_
  show Steps p.tables e below (T0.setTop (mkF m 17 #[.val (.int i0), .val (.int i1), .val (.int i2), .val (.int i3), .val (.int i4), .val (.int kk6), .val (.int (3 : Int32)), .unset, .unset, .unset, .unset, .unset, .unset, .unset, .unset, .unset, .unset, .unset, .unset, .unset] [(.int i1), (.int (1 : Int32))])) _
  refine st6 _ ?_
  show Steps p.tables e below (T6.setTop (mkF m 20 #[.val (.int i0), .val (.int i1), .val (.int i2), .val (.int i3), .val (.int i4), .val (.int kk6), .val (.int (3 : Int32)), .unset, .unset, .unset, .unset, .unset, .unset, .unset, .unset, .unset, .unset, .unset, .unset, .unset] [(.int (F1 i1)), (.int (1 : Int32))])) _
  refine XS.iadd X6.here hx rfl (hb hby at_20) rfl ?_
  show Steps p.tables e below (T6.setTop (mkF m 21 #[.val (.int i0), .val (.int i1), .val (.int i2), .val (.int i3), .val (.int i4), .val (.int kk6), .val (.int (3 : Int32)), .unset, .unset, .unset, .unset, .unset, .unset, .unset, .unset, .unset, .unset, .unset, .unset, .unset] [(.int ((1 : Int32) + (F1 i1)))])) _
  refine XS.istore X6.here hx rfl (hb hby at_21) rfl (l' := #[.val (.int i0), .val (.int i1), .val (.int i2), .val (.int i3), .val (.int i4), .val (.int kk6), .val (.int (3 : Int32)), .val (.int ((1 : Int32) + (F1 i1))), .unset, .unset, .unset, .unset, .unset, .unset, .unset, .unset, .unset, .unset, .unset, .unset]) rfl ?_
  show Steps p.tables e below (T6.setTop (mkF m 23 #[.val (.int i0), .val (.int i1), .val (.int i2), .val (.int i3), .val (.int i4), .val (.int kk6), .val (.int (3 : Int32)), .val (.int ((1 : Int32) + (F1 i1))), .unset, .unset, .unset, .unset, .unset, .unset, .unset, .unset, .unset, .unset, .unset, .unset] [])) _
  rw [hk21]
  show Steps p.tables e below (T6.setTop (mkF m 23 #[.val (.int i0), .val (.int i1), .val (.int i2), .val (.int i3), .val (.int i4), .val (.int kk6), .val (.int (3 : Int32)), .val (.int kk21), .unset, .unset, .unset, .unset, .unset, .unset, .unset, .unset, .unset, .unset, .unset, .unset] [])) _
  refine XS.iload X6.here hx rfl (hb hby at_23) rfl ?_
  show Steps p.tables e below (T6.setTop (mkF m 25 #[.val (.int i0), .val (.int i1), .val (.int i2), .val (.int i3), .val (.int i4), .val (.int kk6), .val (.int (3 : Int32)), .val (.int kk21), .unset, .unset, .unset, .unset, .unset, .unset, .unset, .unset, .unset, .unset, .unset, .unset] [(.int kk21)])) _
  refine XS.iconst X6.here hx rfl (hb hby at_25) ?_
  show Steps p.tables e below (T6.setTop (mkF m 26 #[.val (.int i0), .val (.int i1), .val (.int i2), .val (.int i3), .val (.int i4), .val (.int kk6), .val (.int (3 : Int32)), .val (.int kk21), .unset, .unset, .unset, .unset, .unset, .unset, .unset, .unset, .unset, .unset, .unset, .unset] [(.int (1 : Int32)), (.int kk21)])) _
  refine XS.iadd X6.here hx rfl (hb hby at_26) rfl ?_
  show Steps p.tables e below (T6.setTop (mkF m 27 #[.val (.int i0), .val (.int i1), .val (.int i2), .val (.int i3), .val (.int i4), .val (.int kk6), .val (.int (3 : Int32)), .val (.int kk21), .unset, .unset, .unset, .unset, .unset, .unset, .unset, .unset, .unset, .unset, .unset, .unset] [(.int (kk21 + (1 : Int32)))])) _
  refine XS.iloadN X6.here hx rfl (hb hby at_27) rfl ?_
  show Steps p.tables e below (T6.setTop (mkF m 28 #[.val (.int i0), .val (.int i1), .val (.int i2), .val (.int i3), .val (.int i4), .val (.int kk6), .val (.int (3 : Int32)), .val (.int kk21), .unset, .unset, .unset, .unset, .unset, .unset, .unset, .unset, .unset, .unset, .unset, .unset] [(.int i2), (.int (kk21 + (1 : Int32)))])) _
  refine st7 _ ?_
  show Steps p.tables e below (T7.setTop (mkF m 31 #[.val (.int i0), .val (.int i1), .val (.int i2), .val (.int i3), .val (.int i4), .val (.int kk6), .val (.int (3 : Int32)), .val (.int kk21), .unset, .unset, .unset, .unset, .unset, .unset, .unset, .unset, .unset, .unset, .unset, .unset] [(.int (F1 i2)), (.int (kk21 + (1 : Int32)))])) _
  refine XS.iadd X7.here hx rfl (hb hby at_31) rfl ?_
  show Steps p.tables e below (T7.setTop (mkF m 32 #[.val (.int i0), .val (.int i1), .val (.int i2), .val (.int i3), .val (.int i4), .val (.int kk6), .val (.int (3 : Int32)), .val (.int kk21), .unset, .unset, .unset, .unset, .unset, .unset, .unset, .unset, .unset, .unset, .unset, .unset] [(.int ((kk21 + (1 : Int32)) + (F1 i2)))])) _
  refine XS.istore X7.here hx rfl (hb hby at_32) rfl (l' := #[.val (.int i0), .val (.int i1), .val (.int i2), .val (.int i3), .val (.int i4), .val (.int kk6), .val (.int (3 : Int32)), .val (.int kk21), .val (.int ((kk21 + (1 : Int32)) + (F1 i2))), .unset, .unset, .unset, .unset, .unset, .unset, .unset, .unset, .unset, .unset, .unset]) rfl ?_
  show Steps p.tables e below (T7.setTop (mkF m 34 #[.val (.int i0), .val (.int i1), .val (.int i2), .val (.int i3), .val (.int i4), .val (.int kk6), .val (.int (3 : Int32)), .val (.int kk21), .val (.int ((kk21 + (1 : Int32)) + (F1 i2))), .unset, .unset, .unset, .unset, .unset, .unset, .unset, .unset, .unset, .unset, .unset] [])) _
  rw [hk32]
  show Steps p.tables e below (T7.setTop (mkF m 34 #[.val (.int i0), .val (.int i1), .val (.int i2), .val (.int i3), .val (.int i4), .val (.int kk6), .val (.int (3 : Int32)), .val (.int kk21), .val (.int kk32), .unset, .unset, .unset, .unset, .unset, .unset, .unset, .unset, .unset, .unset, .unset] [])) _
  refine XS.iload X7.here hx rfl (hb hby at_34) rfl ?_
  show Steps p.tables e below (T7.setTop (mkF m 36 #[.val (.int i0), .val (.int i1), .val (.int i2), .val (.int i3), .val (.int i4), .val (.int kk6), .val (.int (3 : Int32)), .val (.int kk21), .val (.int kk32), .unset, .unset, .unset, .unset, .unset, .unset, .unset, .unset, .unset, .unset, .unset] [(.int kk32)])) _
  refine XS.iconst X7.here hx rfl (hb hby at_36) ?_
  show Steps p.tables e below (T7.setTop (mkF m 37 #[.val (.int i0), .val (.int i1), .val (.int i2), .val (.int i3), .val (.int i4), .val (.int kk6), .val (.int (3 : Int32)), .val (.int kk21), .val (.int kk32), .unset, .unset, .unset, .unset, .unset, .unset, .unset, .unset, .unset, .unset, .unset] [(.int (1 : Int32)), (.int kk32)])) _
  refine XS.iadd X7.here hx rfl (hb hby at_37) rfl ?_
  show Steps p.tables e below (T7.setTop (mkF m 38 #[.val (.int i0), .val (.int i1), .val (.int i2), .val (.int i3), .val (.int i4), .val (.int kk6), .val (.int (3 : Int32)), .val (.int kk21), .val (.int kk32), .unset, .unset, .unset, .unset, .unset, .unset, .unset, .unset, .unset, .unset, .unset] [(.int (kk32 + (1 : Int32)))])) _
  refine XS.iloadN X7.here hx rfl (hb hby at_38) rfl ?_
  show Steps p.tables e below (T7.setTop (mkF m 39 #[.val (.int i0), .val (.int i1), .val (.int i2), .val (.int i3), .val (.int i4), .val (.int kk6), .val (.int (3 : Int32)), .val (.int kk21), .val (.int kk32), .unset, .unset, .unset, .unset, .unset, .unset, .unset, .unset, .unset, .unset, .unset] [(.int i3), (.int (kk32 + (1 : Int32)))])) _
  refine st8 _ ?_
  show Steps p.tables e below (T8.setTop (mkF m 42 #[.val (.int i0), .val (.int i1), .val (.int i2), .val (.int i3), .val (.int i4), .val (.int kk6), .val (.int (3 : Int32)), .val (.int kk21), .val (.int kk32), .unset, .unset, .unset, .unset, .unset, .unset, .unset, .unset, .unset, .unset, .unset] [(.int (F1 i3)), (.int (kk32 + (1 : Int32)))])) _
  refine XS.iadd X8.here hx rfl (hb hby at_42) rfl ?_
  show Steps p.tables e below (T8.setTop (mkF m 43 #[.val (.int i0), .val (.int i1), .val (.int i2), .val (.int i3), .val (.int i4), .val (.int kk6), .val (.int (3 : Int32)), .val (.int kk21), .val (.int kk32), .unset, .unset, .unset, .unset, .unset, .unset, .unset, .unset, .unset, .unset, .unset] [(.int ((kk32 + (1 : Int32)) + (F1 i3)))])) _
  refine XS.istore X8.here hx rfl (hb hby at_43) rfl (l' := #[.val (.int i0), .val (.int i1), .val (.int i2), .val (.int i3), .val (.int i4), .val (.int kk6), .val (.int (3 : Int32)), .val (.int kk21), .val (.int kk32), .val (.int ((kk32 + (1 : Int32)) + (F1 i3))), .unset, .unset, .unset, .unset, .unset, .unset, .unset, .unset, .unset, .unset]) rfl ?_
  show Steps p.tables e below (T8.setTop (mkF m 45 #[.val (.int i0), .val (.int i1), .val (.int i2), .val (.int i3), .val (.int i4), .val (.int kk6), .val (.int (3 : Int32)), .val (.int kk21), .val (.int kk32), .val (.int ((kk32 + (1 : Int32)) + (F1 i3))), .unset, .unset, .unset, .unset, .unset, .unset, .unset, .unset, .unset, .unset] [])) _
  rw [hk43]
  show Steps p.tables e below (T8.setTop (mkF m 45 #[.val (.int i0), .val (.int i1), .val (.int i2), .val (.int i3), .val (.int i4), .val (.int kk6), .val (.int (3 : Int32)), .val (.int kk21), .val (.int kk32), .val (.int kk43), .unset, .unset, .unset, .unset, .unset, .unset, .unset, .unset, .unset, .unset] [])) _
  refine XS.iload X8.here hx rfl (hb hby at_45) rfl ?_
  show Steps p.tables e below (T8.setTop (mkF m 47 #[.val (.int i0), .val (.int i1), .val (.int i2), .val (.int i3), .val (.int i4), .val (.int kk6), .val (.int (3 : Int32)), .val (.int kk21), .val (.int kk32), .val (.int kk43), .unset, .unset, .unset, .unset, .unset, .unset, .unset, .unset, .unset, .unset] [(.int (3 : Int32))])) _
  refine XS.iconst X8.here hx rfl (hb hby at_47) ?_
  show Steps p.tables e below (T8.setTop (mkF m 48 #[.val (.int i0), .val (.int i1), .val (.int i2), .val (.int i3), .val (.int i4), .val (.int kk6), .val (.int (3 : Int32)), .val (.int kk21), .val (.int kk32), .val (.int kk43), .unset, .unset, .unset, .unset, .unset, .unset, .unset, .unset, .unset, .unset] [(.int (1 : Int32)), (.int (3 : Int32))])) _
  refine st9 _ ?_
  show Steps p.tables e below (T9.setTop (mkF m 51 #[.val (.int i0), .val (.int i1), .val (.int i2), .val (.int i3), .val (.int i4), .val (.int kk6), .val (.int (3 : Int32)), .val (.int kk21), .val (.int kk32), .val (.int kk43), .unset, .unset, .unset, .unset, .unset, .unset, .unset, .unset, .unset, .unset] [(.int (F2 (3 : Int32) (1 : Int32)))])) _
  refine XS.iload X9.here hx rfl (hb hby at_51) rfl ?_
  show Steps p.tables e below (T9.setTop (mkF m 53 #[.val (.int i0), .val (.int i1), .val (.int i2), .val (.int i3), .val (.int i4), .val (.int kk6), .val (.int (3 : Int32)), .val (.int kk21), .val (.int kk32), .val (.int kk43), .unset, .unset, .unset, .unset, .unset, .unset, .unset, .unset, .unset, .unset] [(.int i4), (.int (F2 (3 : Int32) (1 : Int32)))])) _
  refine X9.ldcInt hx hown (mvT hZ (hw _ (List.mem_of_getElem? (i := 8) rfl))) (g := (mkF m 53 #[.val (.int i0), .val (.int i1), .val (.int i2), .val (.int i3), .val (.int i4), .val (.int kk6), .val (.int (3 : Int32)), .val (.int kk21), .val (.int kk32), .val (.int kk43), .unset, .unset, .unset, .unset, .unset, .unset, .unset, .unset, .unset, .unset] [(.int i4), (.int (F2 (3 : Int32) (1 : Int32)))])) rfl (hb hby at_53) _ ?_
  show Steps p.tables e below (T9.setTop (mkF m 55 #[.val (.int i0), .val (.int i1), .val (.int i2), .val (.int i3), .val (.int i4), .val (.int kk6), .val (.int (3 : Int32)), .val (.int kk21), .val (.int kk32), .val (.int kk43), .unset, .unset, .unset, .unset, .unset, .unset, .unset, .unset, .unset, .unset] [(.int (1073741823 : Int32)), (.int i4), (.int (F2 (3 : Int32) (1 : Int32)))])) _
  refine XS.iand X9.here hx rfl (hb hby at_55) rfl ?_
  show Steps p.tables e below (T9.setTop (mkF m 56 #[.val (.int i0), .val (.int i1), .val (.int i2), .val (.int i3), .val (.int i4), .val (.int kk6), .val (.int (3 : Int32)), .val (.int kk21), .val (.int kk32), .val (.int kk43), .unset, .unset, .unset, .unset, .unset, .unset, .unset, .unset, .unset, .unset] [(.int (i4 &&& (1073741823 : Int32))), (.int (F2 (3 : Int32) (1 : Int32)))])) _
  refine XS.iadd X9.here hx rfl (hb hby at_56) rfl ?_
  show Steps p.tables e below (T9.setTop (mkF m 57 #[.val (.int i0), .val (.int i1), .val (.int i2), .val (.int i3), .val (.int i4), .val (.int kk6), .val (.int (3 : Int32)), .val (.int kk21), .val (.int kk32), .val (.int kk43), .unset, .unset, .unset, .unset, .unset, .unset, .unset, .unset, .unset, .unset] [(.int ((F2 (3 : Int32) (1 : Int32)) + (i4 &&& (1073741823 : Int32))))])) _
  refine XS.istore X9.here hx rfl (hb hby at_57) rfl (l' := #[.val (.int i0), .val (.int i1), .val (.int i2), .val (.int i3), .val (.int i4), .val (.int kk6), .val (.int (3 : Int32)), .val (.int kk21), .val (.int kk32), .val (.int kk43), .val (.int ((F2 (3 : Int32) (1 : Int32)) + (i4 &&& (1073741823 : Int32)))), .unset, .unset, .unset, .unset, .unset, .unset, .unset, .unset, .unset]) rfl ?_
  show Steps p.tables e below (T9.setTop (mkF m 59 #[.val (.int i0), .val (.int i1), .val (.int i2), .val (.int i3), .val (.int i4), .val (.int kk6), .val (.int (3 : Int32)), .val (.int kk21), .val (.int kk32), .val (.int kk43), .val (.int ((F2 (3 : Int32) (1 : Int32)) + (i4 &&& (1073741823 : Int32)))), .unset, .unset, .unset, .unset, .unset, .unset, .unset, .unset, .unset] [])) _
  rw [hk57]
  show Steps p.tables e below (T9.setTop (mkF m 59 #[.val (.int i0), .val (.int i1), .val (.int i2), .val (.int i3), .val (.int i4), .val (.int kk6), .val (.int (3 : Int32)), .val (.int kk21), .val (.int kk32), .val (.int kk43), .val (.int kk57), .unset, .unset, .unset, .unset, .unset, .unset, .unset, .unset, .unset] [])) _
  refine XS.iload X9.here hx rfl (hb hby at_59) rfl ?_
  show Steps p.tables e below (T9.setTop (mkF m 61 #[.val (.int i0), .val (.int i1), .val (.int i2), .val (.int i3), .val (.int i4), .val (.int kk6), .val (.int (3 : Int32)), .val (.int kk21), .val (.int kk32), .val (.int kk43), .val (.int kk57), .unset, .unset, .unset, .unset, .unset, .unset, .unset, .unset, .unset] [(.int (3 : Int32))])) _
  refine st10 _ ?_
  show Steps p.tables e below (T10.setTop (mkF m 63 #[.val (.int i0), .val (.int i1), .val (.int i2), .val (.int i3), .val (.int i4), .val (.int kk6), .val (.int (3 : Int32)), .val (.int kk21), .val (.int kk32), .val (.int kk43), .val (.int kk57), .unset, .unset, .unset, .unset, .unset, .unset, .unset, .unset, .unset] [(.ref b10)])) _
  refine XS.astore X10.here hx rfl (hb hby at_63) rfl rfl (l' := #[.val (.int i0), .val (.int i1), .val (.int i2), .val (.int i3), .val (.int i4), .val (.int kk6), .val (.int (3 : Int32)), .val (.int kk21), .val (.int kk32), .val (.int kk43), .val (.int kk57), .val (.ref b10), .unset, .unset, .unset, .unset, .unset, .unset, .unset, .unset]) rfl ?_
  show Steps p.tables e below (T10.setTop (mkF m 65 #[.val (.int i0), .val (.int i1), .val (.int i2), .val (.int i3), .val (.int i4), .val (.int kk6), .val (.int (3 : Int32)), .val (.int kk21), .val (.int kk32), .val (.int kk43), .val (.int kk57), .val (.ref b10), .unset, .unset, .unset, .unset, .unset, .unset, .unset, .unset] [])) _
  refine XS.iload X10.here hx rfl (hb hby at_65) rfl ?_
  show Steps p.tables e below (T10.setTop (mkF m 67 #[.val (.int i0), .val (.int i1), .val (.int i2), .val (.int i3), .val (.int i4), .val (.int kk6), .val (.int (3 : Int32)), .val (.int kk21), .val (.int kk32), .val (.int kk43), .val (.int kk57), .val (.ref b10), .unset, .unset, .unset, .unset, .unset, .unset, .unset, .unset] [(.int (3 : Int32))])) _
  refine XS.ifNo X10.here hx rfl (hb hby at_67) rfl ((if0 _ _).trans (tlt (by decide : (0 : Int32) < (3 : Int32))).2.2.2) ?_
  show Steps p.tables e below (T10.setTop (mkF m 70 #[.val (.int i0), .val (.int i1), .val (.int i2), .val (.int i3), .val (.int i4), .val (.int kk6), .val (.int (3 : Int32)), .val (.int kk21), .val (.int kk32), .val (.int kk43), .val (.int kk57), .val (.ref b10), .unset, .unset, .unset, .unset, .unset, .unset, .unset, .unset] [])) _
  refine XS.aload X10.here hx rfl (hb hby at_70) rfl rfl ?_
  show Steps p.tables e below (T10.setTop (mkF m 72 #[.val (.int i0), .val (.int i1), .val (.int i2), .val (.int i3), .val (.int i4), .val (.int kk6), .val (.int (3 : Int32)), .val (.int kk21), .val (.int kk32), .val (.int kk43), .val (.int kk57), .val (.ref b10), .unset, .unset, .unset, .unset, .unset, .unset, .unset, .unset] [(.ref b10)])) _
  refine XS.iconst X10.here hx rfl (hb hby at_72) ?_
  show Steps p.tables e below (T10.setTop (mkF m 73 #[.val (.int i0), .val (.int i1), .val (.int i2), .val (.int i3), .val (.int i4), .val (.int kk6), .val (.int (3 : Int32)), .val (.int kk21), .val (.int kk32), .val (.int kk43), .val (.int kk57), .val (.ref b10), .unset, .unset, .unset, .unset, .unset, .unset, .unset, .unset] [(.int (0 : Int32)), (.ref b10)])) _
  refine XS.iload X10.here hx rfl (hb hby at_73) rfl ?_
  show Steps p.tables e below (T10.setTop (mkF m 75 #[.val (.int i0), .val (.int i1), .val (.int i2), .val (.int i3), .val (.int i4), .val (.int kk6), .val (.int (3 : Int32)), .val (.int kk21), .val (.int kk32), .val (.int kk43), .val (.int kk57), .val (.ref b10), .unset, .unset, .unset, .unset, .unset, .unset, .unset, .unset] [(.int kk21), (.int (0 : Int32)), (.ref b10)])) _
  refine st11 _ ?_
  show Steps p.tables e below (T11.setTop (mkF m 76 #[.val (.int i0), .val (.int i1), .val (.int i2), .val (.int i3), .val (.int i4), .val (.int kk6), .val (.int (3 : Int32)), .val (.int kk21), .val (.int kk32), .val (.int kk43), .val (.int kk57), .val (.ref b10), .unset, .unset, .unset, .unset, .unset, .unset, .unset, .unset] [])) _
  refine XS.iload X11.here hx rfl (hb hby at_76) rfl ?_
  show Steps p.tables e below (T11.setTop (mkF m 78 #[.val (.int i0), .val (.int i1), .val (.int i2), .val (.int i3), .val (.int i4), .val (.int kk6), .val (.int (3 : Int32)), .val (.int kk21), .val (.int kk32), .val (.int kk43), .val (.int kk57), .val (.ref b10), .unset, .unset, .unset, .unset, .unset, .unset, .unset, .unset] [(.int (3 : Int32))])) _
  refine XS.iconst X11.here hx rfl (hb hby at_78) ?_
  show Steps p.tables e below (T11.setTop (mkF m 79 #[.val (.int i0), .val (.int i1), .val (.int i2), .val (.int i3), .val (.int i4), .val (.int kk6), .val (.int (3 : Int32)), .val (.int kk21), .val (.int kk32), .val (.int kk43), .val (.int kk57), .val (.ref b10), .unset, .unset, .unset, .unset, .unset, .unset, .unset, .unset] [(.int (1 : Int32)), (.int (3 : Int32))])) _
  refine XS.icmpNo X11.here hx rfl (hb hby at_79) rfl (tlt (by decide : (1 : Int32) < (3 : Int32))).2.2.2 ?_
  show Steps p.tables e below (T11.setTop (mkF m 82 #[.val (.int i0), .val (.int i1), .val (.int i2), .val (.int i3), .val (.int i4), .val (.int kk6), .val (.int (3 : Int32)), .val (.int kk21), .val (.int kk32), .val (.int kk43), .val (.int kk57), .val (.ref b10), .unset, .unset, .unset, .unset, .unset, .unset, .unset, .unset] [])) _
  refine XS.aload X11.here hx rfl (hb hby at_82) rfl rfl ?_
  show Steps p.tables e below (T11.setTop (mkF m 84 #[.val (.int i0), .val (.int i1), .val (.int i2), .val (.int i3), .val (.int i4), .val (.int kk6), .val (.int (3 : Int32)), .val (.int kk21), .val (.int kk32), .val (.int kk43), .val (.int kk57), .val (.ref b10), .unset, .unset, .unset, .unset, .unset, .unset, .unset, .unset] [(.ref b10)])) _
  refine XS.iconst X11.here hx rfl (hb hby at_84) ?_
  show Steps p.tables e below (T11.setTop (mkF m 85 #[.val (.int i0), .val (.int i1), .val (.int i2), .val (.int i3), .val (.int i4), .val (.int kk6), .val (.int (3 : Int32)), .val (.int kk21), .val (.int kk32), .val (.int kk43), .val (.int kk57), .val (.ref b10), .unset, .unset, .unset, .unset, .unset, .unset, .unset, .unset] [(.int (1 : Int32)), (.ref b10)])) _
  refine XS.iload X11.here hx rfl (hb hby at_85) rfl ?_
  show Steps p.tables e below (T11.setTop (mkF m 87 #[.val (.int i0), .val (.int i1), .val (.int i2), .val (.int i3), .val (.int i4), .val (.int kk6), .val (.int (3 : Int32)), .val (.int kk21), .val (.int kk32), .val (.int kk43), .val (.int kk57), .val (.ref b10), .unset, .unset, .unset, .unset, .unset, .unset, .unset, .unset] [(.int kk32), (.int (1 : Int32)), (.ref b10)])) _
  refine st12 _ ?_
  show Steps p.tables e below (T12.setTop (mkF m 88 #[.val (.int i0), .val (.int i1), .val (.int i2), .val (.int i3), .val (.int i4), .val (.int kk6), .val (.int (3 : Int32)), .val (.int kk21), .val (.int kk32), .val (.int kk43), .val (.int kk57), .val (.ref b10), .unset, .unset, .unset, .unset, .unset, .unset, .unset, .unset] [])) _
  refine XS.iload X12.here hx rfl (hb hby at_88) rfl ?_
  show Steps p.tables e below (T12.setTop (mkF m 90 #[.val (.int i0), .val (.int i1), .val (.int i2), .val (.int i3), .val (.int i4), .val (.int kk6), .val (.int (3 : Int32)), .val (.int kk21), .val (.int kk32), .val (.int kk43), .val (.int kk57), .val (.ref b10), .unset, .unset, .unset, .unset, .unset, .unset, .unset, .unset] [(.int (3 : Int32))])) _
  refine XS.iconst X12.here hx rfl (hb hby at_90) ?_
  show Steps p.tables e below (T12.setTop (mkF m 91 #[.val (.int i0), .val (.int i1), .val (.int i2), .val (.int i3), .val (.int i4), .val (.int kk6), .val (.int (3 : Int32)), .val (.int kk21), .val (.int kk32), .val (.int kk43), .val (.int kk57), .val (.ref b10), .unset, .unset, .unset, .unset, .unset, .unset, .unset, .unset] [(.int (2 : Int32)), (.int (3 : Int32))])) _
  refine XS.icmpNo X12.here hx rfl (hb hby at_91) rfl (tlt (by decide : (2 : Int32) < (3 : Int32))).2.2.2 ?_
  show Steps p.tables e below (T12.setTop (mkF m 94 #[.val (.int i0), .val (.int i1), .val (.int i2), .val (.int i3), .val (.int i4), .val (.int kk6), .val (.int (3 : Int32)), .val (.int kk21), .val (.int kk32), .val (.int kk43), .val (.int kk57), .val (.ref b10), .unset, .unset, .unset, .unset, .unset, .unset, .unset, .unset] [])) _
  refine XS.aload X12.here hx rfl (hb hby at_94) rfl rfl ?_
  show Steps p.tables e below (T12.setTop (mkF m 96 #[.val (.int i0), .val (.int i1), .val (.int i2), .val (.int i3), .val (.int i4), .val (.int kk6), .val (.int (3 : Int32)), .val (.int kk21), .val (.int kk32), .val (.int kk43), .val (.int kk57), .val (.ref b10), .unset, .unset, .unset, .unset, .unset, .unset, .unset, .unset] [(.ref b10)])) _
  refine XS.iconst X12.here hx rfl (hb hby at_96) ?_
  show Steps p.tables e below (T12.setTop (mkF m 97 #[.val (.int i0), .val (.int i1), .val (.int i2), .val (.int i3), .val (.int i4), .val (.int kk6), .val (.int (3 : Int32)), .val (.int kk21), .val (.int kk32), .val (.int kk43), .val (.int kk57), .val (.ref b10), .unset, .unset, .unset, .unset, .unset, .unset, .unset, .unset] [(.int (2 : Int32)), (.ref b10)])) _
  refine XS.iload X12.here hx rfl (hb hby at_97) rfl ?_
  show Steps p.tables e below (T12.setTop (mkF m 99 #[.val (.int i0), .val (.int i1), .val (.int i2), .val (.int i3), .val (.int i4), .val (.int kk6), .val (.int (3 : Int32)), .val (.int kk21), .val (.int kk32), .val (.int kk43), .val (.int kk57), .val (.ref b10), .unset, .unset, .unset, .unset, .unset, .unset, .unset, .unset] [(.int kk43), (.int (2 : Int32)), (.ref b10)])) _
  refine st13 _ ?_
  exact kt
theorem pd_0_2 : parseMethodDescriptor "([II)D" = some ⟨[(.array .int), .int], some .double⟩ := by decide +kernel
set_option maxRecDepth 65536 in
set_option maxHeartbeats 40000000 in
theorem s2_0 {p : Program} {l : Launch} {e : Env} {s : State} {m : MethodId} {args : Array Value} {below : List Frame} {meth : Method} {c : Code} {T0 : State} {locs : List Loc} {sl : Nat} {Z : State} {a0 : Array Value} {h0 : Heap} (n0 : Nat) (g : UInt64) (s0 : Slot) (s1 : Slot) (s2 : Slot) (s3 : Slot) (s4 : Slot) (i5 : Int32) (s6 : Slot) (s7 : Slot) (s8 : Slot) (s9 : Slot) (i10 : Int32) (o11 : Addr) (w6 : Addr)
    (X0 : Stand p l e ({ frames := 5, cells := 16, slots := 128, locals := 128 } : Room) s m args below meth c T0 locs 1 sl) (hx : p.tables.exec = Jvm.exec) (hZ : Z.Warmed39 s.vm) (hw : ∀ d ∈ tables_1, d.before a0 Z = true) (hby : c.code = code) (hml : c.maxLocals = 20) (hown : s.vm.findClass "com/example/pesquisa/pesquisa/MeasureScorePinLaw" = some m.cls) (e0 : T0.heap = h0) (S_AVERAGE_PRECISION : Sta Z h0 "com/example/pesquisa/pesquisa/Measure" "AVERAGE_PRECISION" "Lcom/example/pesquisa/pesquisa/Measure;" (.ref w6)) (E_w6 : Exa Z h0 w6 "com/example/pesquisa/pesquisa/Measure") (hc102 : i5 = (0 : Int32)) (N0 : Fr n0 locs) (hsl : sl ≤ 3) (hS : MetFree l (⟨"com/example/pesquisa/pesquisa/Measure", "score", "([II)D"⟩ : MethodName) (head1 (Jvm.Cond.code (⟨"com/example/pesquisa/pesquisa/Measure", "score", "([II)D"⟩ : MethodName) prog_6_method_5_code 5 (some .double) :: []) ({ frames := 1, cells := 0, slots := 0, locals := 40 } : Room)) (fun a U => a = #[(.ref w6), (.ref o11), (.int i10)] ∧ Z.Warmed39 U.vm ∧ U.heap = h0) (fun _ _ _ _ _ => True) (fun _ U o U' => ∃ v L, o = .returned v ∧ QP (some (.double g)) h0 n0 v U'.heap L ∧ FrameEnd U o U' L ({ frames := 1, cells := 0, slots := 0, locals := 40 } : Room).cells ({ frames := 1, cells := 0, slots := 0, locals := 40 } : Room).slots)) :
    ∃ (T' : State) (locs' : List Loc), Stand p l e ({ frames := 5, cells := 16, slots := 128, locals := 128 } : Room) s m args below meth c T' locs' 1 sl ∧ T'.heap = h0 ∧ Fr n0 locs' ∧
      ∀ target, Steps p.tables e below (T'.setTop (mkF m 171 #[s0, s1, s2, s3, s4, .val (.int i5), s6, s7, s8, s9, .val (.int i10), .val (.ref o11), .val (.ref w6), .val (.double g), .second, .unset, .unset, .unset, .unset, .unset] [])) target → Steps p.tables e below (T0.setTop (mkF m 100 #[s0, s1, s2, s3, s4, .val (.int i5), s6, s7, s8, s9, .val (.int i10), .val (.ref o11), .unset, .unset, .unset, .unset, .unset, .unset, .unset, .unset] [])) target := by
  obtain ⟨T7, X7, e7, st7⟩ := getS2 X0 hx hZ hown (host := "") (Or.inl (hw _ (List.mem_of_getElem? (i := 10) rfl))) Via.refl e0 S_AVERAGE_PRECISION (g := (mkF m 105 #[s0, s1, s2, s3, s4, .val (.int i5), s6, s7, s8, s9, .val (.int i10), .val (.ref o11), .unset, .unset, .unset, .unset, .unset, .unset, .unset, .unset] [])) rfl (hb hby at_105)
  obtain ⟨cq8, kq8, q8a, q8b, q8c⟩ := isOf hZ e7 E_w6
  obtain ⟨_, _, ⟨T8, L8, k8, n8⟩, -, X8, ⟨Lc8, hQ8, l8, y8, z8⟩, st8⟩ := X7.virtualBack hx (y := (⟨"com/example/pesquisa/pesquisa/Measure", "score", "([II)D"⟩ : MethodName)) (z := (⟨"com/example/pesquisa/pesquisa/Measure", "score", "([II)D"⟩ : MethodName)) hown (mvT hZ (hw _ (List.mem_of_getElem? (i := 13) rfl))) (mvT hZ (hw _ (List.mem_of_getElem? (i := 14) rfl))) (notFace_of_selects (args := #[]) (mvT hZ (hw _ (List.mem_of_getElem? (i := 16) rfl)))) (mvT hZ (hw _ (List.mem_of_getElem? (i := 16) rfl))) (mvT hZ (hw _ (List.mem_of_getElem? (i := 15) rfl))) (by decide) (backOf (W := 0) hS hZ (hw _ (List.mem_of_getElem? (i := 17) rfl)) (hw _ (List.mem_of_getElem? (i := 11) rfl)) (by decide) (by decide)) q8a q8c (g := (mkF m 166 #[s0, s1, s2, s3, s4, .val (.int i5), s6, s7, s8, s9, .val (.int i10), .val (.ref o11), .val (.ref w6), .unset, .unset, .unset, .unset, .unset, .unset, .unset] [(.int i10), (.ref o11), (.ref w6)])) rfl (by rw [hml]; rfl) (Steps.refl _) (argsL := [(.ref o11), (.int i10)]) (rest := []) (lenOf pd_0_2 rfl) rfl (by show 2 * 0 + _ ≤ _; exact Nat.le_of_eq rfl) (hb hby at_166) (fun _ _ => ⟨rfl, e7, (by decide : 1 + 0 ≤ _), (by show sl + 0 ≤ 128; omega)⟩)
  dsimp only [Pt.U, Pt.locs, Pt.cells, Pt.slots] at X8 l8 y8 z8 st8 hQ8
  subst l8 y8 z8
  obtain ⟨rfl, N8q, eh8⟩ := hQ8
  have N8 := Fr.app N0 N8q
  refine ⟨T8, _, X8, eh8, N8, fun target kt => ?_⟩
  show Steps p.tables e below (T0.setTop (mkF m 100 #[s0, s1, s2, s3, s4, .val (.int i5), s6, s7, s8, s9, .val (.int i10), .val (.ref o11), .unset, .unset, .unset, .unset, .unset, .unset, .unset, .unset] [])) _
  refine XS.iload X0.here hx rfl (hb hby at_100) rfl ?_
  show Steps p.tables e below (T0.setTop (mkF m 102 #[s0, s1, s2, s3, s4, .val (.int i5), s6, s7, s8, s9, .val (.int i10), .val (.ref o11), .unset, .unset, .unset, .unset, .unset, .unset, .unset, .unset] [(.int i5)])) _
  refine XS.ifNo X0.here hx rfl (hb hby at_102) rfl ((if0 _ _).trans (teq hc102).2) ?_
  show Steps p.tables e below (T0.setTop (mkF m 105 #[s0, s1, s2, s3, s4, .val (.int i5), s6, s7, s8, s9, .val (.int i10), .val (.ref o11), .unset, .unset, .unset, .unset, .unset, .unset, .unset, .unset] [])) _
  refine st7 _ ?_
  show Steps p.tables e below (T7.setTop (mkF m 108 #[s0, s1, s2, s3, s4, .val (.int i5), s6, s7, s8, s9, .val (.int i10), .val (.ref o11), .unset, .unset, .unset, .unset, .unset, .unset, .unset, .unset] [(.ref w6)])) _
  refine XS.astore X7.here hx rfl (hb hby at_108) rfl rfl (l' := #[s0, s1, s2, s3, s4, .val (.int i5), s6, s7, s8, s9, .val (.int i10), .val (.ref o11), .val (.ref w6), .unset, .unset, .unset, .unset, .unset, .unset, .unset]) rfl ?_
  show Steps p.tables e below (T7.setTop (mkF m 110 #[s0, s1, s2, s3, s4, .val (.int i5), s6, s7, s8, s9, .val (.int i10), .val (.ref o11), .val (.ref w6), .unset, .unset, .unset, .unset, .unset, .unset, .unset] [])) _
  refine XS.goto X7.here hx rfl (pc0 := 110) (pc' := 160) rfl (hb hby at_110) (by decide) (by decide) ?_
  show Steps p.tables e below (T7.setTop (mkF m 160 #[s0, s1, s2, s3, s4, .val (.int i5), s6, s7, s8, s9, .val (.int i10), .val (.ref o11), .val (.ref w6), .unset, .unset, .unset, .unset, .unset, .unset, .unset] [])) _
  refine XS.aload X7.here hx rfl (hb hby at_160) rfl rfl ?_
  show Steps p.tables e below (T7.setTop (mkF m 162 #[s0, s1, s2, s3, s4, .val (.int i5), s6, s7, s8, s9, .val (.int i10), .val (.ref o11), .val (.ref w6), .unset, .unset, .unset, .unset, .unset, .unset, .unset] [(.ref w6)])) _
  refine XS.aload X7.here hx rfl (hb hby at_162) rfl rfl ?_
  show Steps p.tables e below (T7.setTop (mkF m 164 #[s0, s1, s2, s3, s4, .val (.int i5), s6, s7, s8, s9, .val (.int i10), .val (.ref o11), .val (.ref w6), .unset, .unset, .unset, .unset, .unset, .unset, .unset] [(.ref o11), (.ref w6)])) _
  refine XS.iload X7.here hx rfl (hb hby at_164) rfl ?_
  show Steps p.tables e below (T7.setTop (mkF m 166 #[s0, s1, s2, s3, s4, .val (.int i5), s6, s7, s8, s9, .val (.int i10), .val (.ref o11), .val (.ref w6), .unset, .unset, .unset, .unset, .unset, .unset, .unset] [(.int i10), (.ref o11), (.ref w6)])) _
  refine st8.trans ?_
  show Steps p.tables e below (T8.setTop (mkF m 169 #[s0, s1, s2, s3, s4, .val (.int i5), s6, s7, s8, s9, .val (.int i10), .val (.ref o11), .val (.ref w6), .unset, .unset, .unset, .unset, .unset, .unset, .unset] [(.double g)])) _
  refine XS.dstore X8.here hx rfl (hb hby at_169) rfl (l' := #[s0, s1, s2, s3, s4, .val (.int i5), s6, s7, s8, s9, .val (.int i10), .val (.ref o11), .val (.ref w6), .val (.double g), .second, .unset, .unset, .unset, .unset, .unset]) rfl ?_
  exact kt
set_option maxRecDepth 65536 in
set_option maxHeartbeats 40000000 in
theorem s2_1 {p : Program} {l : Launch} {e : Env} {s : State} {m : MethodId} {args : Array Value} {below : List Frame} {meth : Method} {c : Code} {T0 : State} {locs : List Loc} {sl : Nat} {Z : State} {a0 : Array Value} {h0 : Heap} (n0 : Nat) (g : UInt64) (s0 : Slot) (s1 : Slot) (s2 : Slot) (s3 : Slot) (s4 : Slot) (i5 : Int32) (s6 : Slot) (s7 : Slot) (s8 : Slot) (s9 : Slot) (i10 : Int32) (o11 : Addr) (w6 : Addr)
    (X0 : Stand p l e ({ frames := 5, cells := 16, slots := 128, locals := 128 } : Room) s m args below meth c T0 locs 1 sl) (hx : p.tables.exec = Jvm.exec) (hZ : Z.Warmed39 s.vm) (hw : ∀ d ∈ tables_1, d.before a0 Z = true) (hby : c.code = code) (hml : c.maxLocals = 20) (hown : s.vm.findClass "com/example/pesquisa/pesquisa/MeasureScorePinLaw" = some m.cls) (e0 : T0.heap = h0) (S_PRECISION_AT_10 : Sta Z h0 "com/example/pesquisa/pesquisa/Measure" "PRECISION_AT_10" "Lcom/example/pesquisa/pesquisa/Measure;" (.ref w6)) (E_w6 : Exa Z h0 w6 "com/example/pesquisa/pesquisa/Measure") (hc102 : ¬ (i5 = (0 : Int32))) (hc116 : i5 = (1 : Int32)) (N0 : Fr n0 locs) (hsl : sl ≤ 3) (hS : MetFree l (⟨"com/example/pesquisa/pesquisa/Measure", "score", "([II)D"⟩ : MethodName) (head1 (Jvm.Cond.code (⟨"com/example/pesquisa/pesquisa/Measure", "score", "([II)D"⟩ : MethodName) prog_6_method_5_code 5 (some .double) :: []) ({ frames := 1, cells := 0, slots := 0, locals := 40 } : Room)) (fun a U => a = #[(.ref w6), (.ref o11), (.int i10)] ∧ Z.Warmed39 U.vm ∧ U.heap = h0) (fun _ _ _ _ _ => True) (fun _ U o U' => ∃ v L, o = .returned v ∧ QP (some (.double g)) h0 n0 v U'.heap L ∧ FrameEnd U o U' L ({ frames := 1, cells := 0, slots := 0, locals := 40 } : Room).cells ({ frames := 1, cells := 0, slots := 0, locals := 40 } : Room).slots)) :
    ∃ (T' : State) (locs' : List Loc), Stand p l e ({ frames := 5, cells := 16, slots := 128, locals := 128 } : Room) s m args below meth c T' locs' 1 sl ∧ T'.heap = h0 ∧ Fr n0 locs' ∧
      ∀ target, Steps p.tables e below (T'.setTop (mkF m 171 #[s0, s1, s2, s3, s4, .val (.int i5), s6, s7, s8, s9, .val (.int i10), .val (.ref o11), .val (.ref w6), .val (.double g), .second, .unset, .unset, .unset, .unset, .unset] [])) target → Steps p.tables e below (T0.setTop (mkF m 100 #[s0, s1, s2, s3, s4, .val (.int i5), s6, s7, s8, s9, .val (.int i10), .val (.ref o11), .unset, .unset, .unset, .unset, .unset, .unset, .unset, .unset] [])) target := by
  obtain ⟨T7, X7, e7, st7⟩ := getS2 X0 hx hZ hown (host := "") (Or.inl (hw _ (List.mem_of_getElem? (i := 36) rfl))) Via.refl e0 S_PRECISION_AT_10 (g := (mkF m 119 #[s0, s1, s2, s3, s4, .val (.int i5), s6, s7, s8, s9, .val (.int i10), .val (.ref o11), .unset, .unset, .unset, .unset, .unset, .unset, .unset, .unset] [])) rfl (hb hby at_119)
  obtain ⟨cq8, kq8, q8a, q8b, q8c⟩ := isOf hZ e7 E_w6
  obtain ⟨_, _, ⟨T8, L8, k8, n8⟩, -, X8, ⟨Lc8, hQ8, l8, y8, z8⟩, st8⟩ := X7.virtualBack hx (y := (⟨"com/example/pesquisa/pesquisa/Measure", "score", "([II)D"⟩ : MethodName)) (z := (⟨"com/example/pesquisa/pesquisa/Measure", "score", "([II)D"⟩ : MethodName)) hown (mvT hZ (hw _ (List.mem_of_getElem? (i := 13) rfl))) (mvT hZ (hw _ (List.mem_of_getElem? (i := 14) rfl))) (notFace_of_selects (args := #[]) (mvT hZ (hw _ (List.mem_of_getElem? (i := 16) rfl)))) (mvT hZ (hw _ (List.mem_of_getElem? (i := 16) rfl))) (mvT hZ (hw _ (List.mem_of_getElem? (i := 15) rfl))) (by decide) (backOf (W := 0) hS hZ (hw _ (List.mem_of_getElem? (i := 17) rfl)) (hw _ (List.mem_of_getElem? (i := 11) rfl)) (by decide) (by decide)) q8a q8c (g := (mkF m 166 #[s0, s1, s2, s3, s4, .val (.int i5), s6, s7, s8, s9, .val (.int i10), .val (.ref o11), .val (.ref w6), .unset, .unset, .unset, .unset, .unset, .unset, .unset] [(.int i10), (.ref o11), (.ref w6)])) rfl (by rw [hml]; rfl) (Steps.refl _) (argsL := [(.ref o11), (.int i10)]) (rest := []) (lenOf pd_0_2 rfl) rfl (by show 2 * 0 + _ ≤ _; exact Nat.le_of_eq rfl) (hb hby at_166) (fun _ _ => ⟨rfl, e7, (by decide : 1 + 0 ≤ _), (by show sl + 0 ≤ 128; omega)⟩)
  dsimp only [Pt.U, Pt.locs, Pt.cells, Pt.slots] at X8 l8 y8 z8 st8 hQ8
  subst l8 y8 z8
  obtain ⟨rfl, N8q, eh8⟩ := hQ8
  have N8 := Fr.app N0 N8q
  refine ⟨T8, _, X8, eh8, N8, fun target kt => ?_⟩
  show Steps p.tables e below (T0.setTop (mkF m 100 #[s0, s1, s2, s3, s4, .val (.int i5), s6, s7, s8, s9, .val (.int i10), .val (.ref o11), .unset, .unset, .unset, .unset, .unset, .unset, .unset, .unset] [])) _
  refine XS.iload X0.here hx rfl (hb hby at_100) rfl ?_
  show Steps p.tables e below (T0.setTop (mkF m 102 #[s0, s1, s2, s3, s4, .val (.int i5), s6, s7, s8, s9, .val (.int i10), .val (.ref o11), .unset, .unset, .unset, .unset, .unset, .unset, .unset, .unset] [(.int i5)])) _
  refine XS.ifYes X0.here hx rfl (pc0 := 102) (pc' := 113) rfl (hb hby at_102) rfl ((if0 _ _).trans (feq hc102).2) (by decide) (by decide) ?_
  show Steps p.tables e below (T0.setTop (mkF m 113 #[s0, s1, s2, s3, s4, .val (.int i5), s6, s7, s8, s9, .val (.int i10), .val (.ref o11), .unset, .unset, .unset, .unset, .unset, .unset, .unset, .unset] [])) _
  refine XS.iload X0.here hx rfl (hb hby at_113) rfl ?_
  show Steps p.tables e below (T0.setTop (mkF m 115 #[s0, s1, s2, s3, s4, .val (.int i5), s6, s7, s8, s9, .val (.int i10), .val (.ref o11), .unset, .unset, .unset, .unset, .unset, .unset, .unset, .unset] [(.int i5)])) _
  refine XS.iconst X0.here hx rfl (hb hby at_115) ?_
  show Steps p.tables e below (T0.setTop (mkF m 116 #[s0, s1, s2, s3, s4, .val (.int i5), s6, s7, s8, s9, .val (.int i10), .val (.ref o11), .unset, .unset, .unset, .unset, .unset, .unset, .unset, .unset] [(.int (1 : Int32)), (.int i5)])) _
  refine XS.icmpNo X0.here hx rfl (hb hby at_116) rfl (teq hc116).2 ?_
  show Steps p.tables e below (T0.setTop (mkF m 119 #[s0, s1, s2, s3, s4, .val (.int i5), s6, s7, s8, s9, .val (.int i10), .val (.ref o11), .unset, .unset, .unset, .unset, .unset, .unset, .unset, .unset] [])) _
  refine st7 _ ?_
  show Steps p.tables e below (T7.setTop (mkF m 122 #[s0, s1, s2, s3, s4, .val (.int i5), s6, s7, s8, s9, .val (.int i10), .val (.ref o11), .unset, .unset, .unset, .unset, .unset, .unset, .unset, .unset] [(.ref w6)])) _
  refine XS.astore X7.here hx rfl (hb hby at_122) rfl rfl (l' := #[s0, s1, s2, s3, s4, .val (.int i5), s6, s7, s8, s9, .val (.int i10), .val (.ref o11), .val (.ref w6), .unset, .unset, .unset, .unset, .unset, .unset, .unset]) rfl ?_
  show Steps p.tables e below (T7.setTop (mkF m 124 #[s0, s1, s2, s3, s4, .val (.int i5), s6, s7, s8, s9, .val (.int i10), .val (.ref o11), .val (.ref w6), .unset, .unset, .unset, .unset, .unset, .unset, .unset] [])) _
  refine XS.goto X7.here hx rfl (pc0 := 124) (pc' := 160) rfl (hb hby at_124) (by decide) (by decide) ?_
  show Steps p.tables e below (T7.setTop (mkF m 160 #[s0, s1, s2, s3, s4, .val (.int i5), s6, s7, s8, s9, .val (.int i10), .val (.ref o11), .val (.ref w6), .unset, .unset, .unset, .unset, .unset, .unset, .unset] [])) _
  refine XS.aload X7.here hx rfl (hb hby at_160) rfl rfl ?_
  show Steps p.tables e below (T7.setTop (mkF m 162 #[s0, s1, s2, s3, s4, .val (.int i5), s6, s7, s8, s9, .val (.int i10), .val (.ref o11), .val (.ref w6), .unset, .unset, .unset, .unset, .unset, .unset, .unset] [(.ref w6)])) _
  refine XS.aload X7.here hx rfl (hb hby at_162) rfl rfl ?_
  show Steps p.tables e below (T7.setTop (mkF m 164 #[s0, s1, s2, s3, s4, .val (.int i5), s6, s7, s8, s9, .val (.int i10), .val (.ref o11), .val (.ref w6), .unset, .unset, .unset, .unset, .unset, .unset, .unset] [(.ref o11), (.ref w6)])) _
  refine XS.iload X7.here hx rfl (hb hby at_164) rfl ?_
  show Steps p.tables e below (T7.setTop (mkF m 166 #[s0, s1, s2, s3, s4, .val (.int i5), s6, s7, s8, s9, .val (.int i10), .val (.ref o11), .val (.ref w6), .unset, .unset, .unset, .unset, .unset, .unset, .unset] [(.int i10), (.ref o11), (.ref w6)])) _
  refine st8.trans ?_
  show Steps p.tables e below (T8.setTop (mkF m 169 #[s0, s1, s2, s3, s4, .val (.int i5), s6, s7, s8, s9, .val (.int i10), .val (.ref o11), .val (.ref w6), .unset, .unset, .unset, .unset, .unset, .unset, .unset] [(.double g)])) _
  refine XS.dstore X8.here hx rfl (hb hby at_169) rfl (l' := #[s0, s1, s2, s3, s4, .val (.int i5), s6, s7, s8, s9, .val (.int i10), .val (.ref o11), .val (.ref w6), .val (.double g), .second, .unset, .unset, .unset, .unset, .unset]) rfl ?_
  exact kt
set_option maxRecDepth 65536 in
set_option maxHeartbeats 40000000 in
theorem s2_2 {p : Program} {l : Launch} {e : Env} {s : State} {m : MethodId} {args : Array Value} {below : List Frame} {meth : Method} {c : Code} {T0 : State} {locs : List Loc} {sl : Nat} {Z : State} {a0 : Array Value} {h0 : Heap} (n0 : Nat) (g : UInt64) (s0 : Slot) (s1 : Slot) (s2 : Slot) (s3 : Slot) (s4 : Slot) (i5 : Int32) (s6 : Slot) (s7 : Slot) (s8 : Slot) (s9 : Slot) (i10 : Int32) (o11 : Addr) (w6 : Addr)
    (X0 : Stand p l e ({ frames := 5, cells := 16, slots := 128, locals := 128 } : Room) s m args below meth c T0 locs 1 sl) (hx : p.tables.exec = Jvm.exec) (hZ : Z.Warmed39 s.vm) (hw : ∀ d ∈ tables_1, d.before a0 Z = true) (hby : c.code = code) (hml : c.maxLocals = 20) (hown : s.vm.findClass "com/example/pesquisa/pesquisa/MeasureScorePinLaw" = some m.cls) (e0 : T0.heap = h0) (S_RECIPROCAL_RANK : Sta Z h0 "com/example/pesquisa/pesquisa/Measure" "RECIPROCAL_RANK" "Lcom/example/pesquisa/pesquisa/Measure;" (.ref w6)) (E_w6 : Exa Z h0 w6 "com/example/pesquisa/pesquisa/Measure") (hc102 : ¬ (i5 = (0 : Int32))) (hc116 : ¬ (i5 = (1 : Int32))) (hc130 : i5 = (2 : Int32)) (N0 : Fr n0 locs) (hsl : sl ≤ 3) (hS : MetFree l (⟨"com/example/pesquisa/pesquisa/Measure", "score", "([II)D"⟩ : MethodName) (head1 (Jvm.Cond.code (⟨"com/example/pesquisa/pesquisa/Measure", "score", "([II)D"⟩ : MethodName) prog_6_method_5_code 5 (some .double) :: []) ({ frames := 1, cells := 0, slots := 0, locals := 40 } : Room)) (fun a U => a = #[(.ref w6), (.ref o11), (.int i10)] ∧ Z.Warmed39 U.vm ∧ U.heap = h0) (fun _ _ _ _ _ => True) (fun _ U o U' => ∃ v L, o = .returned v ∧ QP (some (.double g)) h0 n0 v U'.heap L ∧ FrameEnd U o U' L ({ frames := 1, cells := 0, slots := 0, locals := 40 } : Room).cells ({ frames := 1, cells := 0, slots := 0, locals := 40 } : Room).slots)) :
    ∃ (T' : State) (locs' : List Loc), Stand p l e ({ frames := 5, cells := 16, slots := 128, locals := 128 } : Room) s m args below meth c T' locs' 1 sl ∧ T'.heap = h0 ∧ Fr n0 locs' ∧
      ∀ target, Steps p.tables e below (T'.setTop (mkF m 171 #[s0, s1, s2, s3, s4, .val (.int i5), s6, s7, s8, s9, .val (.int i10), .val (.ref o11), .val (.ref w6), .val (.double g), .second, .unset, .unset, .unset, .unset, .unset] [])) target → Steps p.tables e below (T0.setTop (mkF m 100 #[s0, s1, s2, s3, s4, .val (.int i5), s6, s7, s8, s9, .val (.int i10), .val (.ref o11), .unset, .unset, .unset, .unset, .unset, .unset, .unset, .unset] [])) target := by
  obtain ⟨T7, X7, e7, st7⟩ := getS2 X0 hx hZ hown (host := "") (Or.inl (hw _ (List.mem_of_getElem? (i := 34) rfl))) Via.refl e0 S_RECIPROCAL_RANK (g := (mkF m 133 #[s0, s1, s2, s3, s4, .val (.int i5), s6, s7, s8, s9, .val (.int i10), .val (.ref o11), .unset, .unset, .unset, .unset, .unset, .unset, .unset, .unset] [])) rfl (hb hby at_133)
  obtain ⟨cq8, kq8, q8a, q8b, q8c⟩ := isOf hZ e7 E_w6
  obtain ⟨_, _, ⟨T8, L8, k8, n8⟩, -, X8, ⟨Lc8, hQ8, l8, y8, z8⟩, st8⟩ := X7.virtualBack hx (y := (⟨"com/example/pesquisa/pesquisa/Measure", "score", "([II)D"⟩ : MethodName)) (z := (⟨"com/example/pesquisa/pesquisa/Measure", "score", "([II)D"⟩ : MethodName)) hown (mvT hZ (hw _ (List.mem_of_getElem? (i := 13) rfl))) (mvT hZ (hw _ (List.mem_of_getElem? (i := 14) rfl))) (notFace_of_selects (args := #[]) (mvT hZ (hw _ (List.mem_of_getElem? (i := 16) rfl)))) (mvT hZ (hw _ (List.mem_of_getElem? (i := 16) rfl))) (mvT hZ (hw _ (List.mem_of_getElem? (i := 15) rfl))) (by decide) (backOf (W := 0) hS hZ (hw _ (List.mem_of_getElem? (i := 17) rfl)) (hw _ (List.mem_of_getElem? (i := 11) rfl)) (by decide) (by decide)) q8a q8c (g := (mkF m 166 #[s0, s1, s2, s3, s4, .val (.int i5), s6, s7, s8, s9, .val (.int i10), .val (.ref o11), .val (.ref w6), .unset, .unset, .unset, .unset, .unset, .unset, .unset] [(.int i10), (.ref o11), (.ref w6)])) rfl (by rw [hml]; rfl) (Steps.refl _) (argsL := [(.ref o11), (.int i10)]) (rest := []) (lenOf pd_0_2 rfl) rfl (by show 2 * 0 + _ ≤ _; exact Nat.le_of_eq rfl) (hb hby at_166) (fun _ _ => ⟨rfl, e7, (by decide : 1 + 0 ≤ _), (by show sl + 0 ≤ 128; omega)⟩)
  dsimp only [Pt.U, Pt.locs, Pt.cells, Pt.slots] at X8 l8 y8 z8 st8 hQ8
  subst l8 y8 z8
  obtain ⟨rfl, N8q, eh8⟩ := hQ8
  have N8 := Fr.app N0 N8q
  refine ⟨T8, _, X8, eh8, N8, fun target kt => ?_⟩
  show Steps p.tables e below (T0.setTop (mkF m 100 #[s0, s1, s2, s3, s4, .val (.int i5), s6, s7, s8, s9, .val (.int i10), .val (.ref o11), .unset, .unset, .unset, .unset, .unset, .unset, .unset, .unset] [])) _
  refine XS.iload X0.here hx rfl (hb hby at_100) rfl ?_
  show Steps p.tables e below (T0.setTop (mkF m 102 #[s0, s1, s2, s3, s4, .val (.int i5), s6, s7, s8, s9, .val (.int i10), .val (.ref o11), .unset, .unset, .unset, .unset, .unset, .unset, .unset, .unset] [(.int i5)])) _
  refine XS.ifYes X0.here hx rfl (pc0 := 102) (pc' := 113) rfl (hb hby at_102) rfl ((if0 _ _).trans (feq hc102).2) (by decide) (by decide) ?_
  show Steps p.tables e below (T0.setTop (mkF m 113 #[s0, s1, s2, s3, s4, .val (.int i5), s6, s7, s8, s9, .val (.int i10), .val (.ref o11), .unset, .unset, .unset, .unset, .unset, .unset, .unset, .unset] [])) _
  refine XS.iload X0.here hx rfl (hb hby at_113) rfl ?_
  show Steps p.tables e below (T0.setTop (mkF m 115 #[s0, s1, s2, s3, s4, .val (.int i5), s6, s7, s8, s9, .val (.int i10), .val (.ref o11), .unset, .unset, .unset, .unset, .unset, .unset, .unset, .unset] [(.int i5)])) _
  refine XS.iconst X0.here hx rfl (hb hby at_115) ?_
  show Steps p.tables e below (T0.setTop (mkF m 116 #[s0, s1, s2, s3, s4, .val (.int i5), s6, s7, s8, s9, .val (.int i10), .val (.ref o11), .unset, .unset, .unset, .unset, .unset, .unset, .unset, .unset] [(.int (1 : Int32)), (.int i5)])) _
  refine XS.icmpYes X0.here hx rfl (pc0 := 116) (pc' := 127) rfl (hb hby at_116) rfl (feq hc116).2 (by decide) (by decide) ?_
  show Steps p.tables e below (T0.setTop (mkF m 127 #[s0, s1, s2, s3, s4, .val (.int i5), s6, s7, s8, s9, .val (.int i10), .val (.ref o11), .unset, .unset, .unset, .unset, .unset, .unset, .unset, .unset] [])) _
  refine XS.iload X0.here hx rfl (hb hby at_127) rfl ?_
  show Steps p.tables e below (T0.setTop (mkF m 129 #[s0, s1, s2, s3, s4, .val (.int i5), s6, s7, s8, s9, .val (.int i10), .val (.ref o11), .unset, .unset, .unset, .unset, .unset, .unset, .unset, .unset] [(.int i5)])) _
  refine XS.iconst X0.here hx rfl (hb hby at_129) ?_
  show Steps p.tables e below (T0.setTop (mkF m 130 #[s0, s1, s2, s3, s4, .val (.int i5), s6, s7, s8, s9, .val (.int i10), .val (.ref o11), .unset, .unset, .unset, .unset, .unset, .unset, .unset, .unset] [(.int (2 : Int32)), (.int i5)])) _
  refine XS.icmpNo X0.here hx rfl (hb hby at_130) rfl (teq hc130).2 ?_
  show Steps p.tables e below (T0.setTop (mkF m 133 #[s0, s1, s2, s3, s4, .val (.int i5), s6, s7, s8, s9, .val (.int i10), .val (.ref o11), .unset, .unset, .unset, .unset, .unset, .unset, .unset, .unset] [])) _
  refine st7 _ ?_
  show Steps p.tables e below (T7.setTop (mkF m 136 #[s0, s1, s2, s3, s4, .val (.int i5), s6, s7, s8, s9, .val (.int i10), .val (.ref o11), .unset, .unset, .unset, .unset, .unset, .unset, .unset, .unset] [(.ref w6)])) _
  refine XS.astore X7.here hx rfl (hb hby at_136) rfl rfl (l' := #[s0, s1, s2, s3, s4, .val (.int i5), s6, s7, s8, s9, .val (.int i10), .val (.ref o11), .val (.ref w6), .unset, .unset, .unset, .unset, .unset, .unset, .unset]) rfl ?_
  show Steps p.tables e below (T7.setTop (mkF m 138 #[s0, s1, s2, s3, s4, .val (.int i5), s6, s7, s8, s9, .val (.int i10), .val (.ref o11), .val (.ref w6), .unset, .unset, .unset, .unset, .unset, .unset, .unset] [])) _
  refine XS.goto X7.here hx rfl (pc0 := 138) (pc' := 160) rfl (hb hby at_138) (by decide) (by decide) ?_
  show Steps p.tables e below (T7.setTop (mkF m 160 #[s0, s1, s2, s3, s4, .val (.int i5), s6, s7, s8, s9, .val (.int i10), .val (.ref o11), .val (.ref w6), .unset, .unset, .unset, .unset, .unset, .unset, .unset] [])) _
  refine XS.aload X7.here hx rfl (hb hby at_160) rfl rfl ?_
  show Steps p.tables e below (T7.setTop (mkF m 162 #[s0, s1, s2, s3, s4, .val (.int i5), s6, s7, s8, s9, .val (.int i10), .val (.ref o11), .val (.ref w6), .unset, .unset, .unset, .unset, .unset, .unset, .unset] [(.ref w6)])) _
  refine XS.aload X7.here hx rfl (hb hby at_162) rfl rfl ?_
  show Steps p.tables e below (T7.setTop (mkF m 164 #[s0, s1, s2, s3, s4, .val (.int i5), s6, s7, s8, s9, .val (.int i10), .val (.ref o11), .val (.ref w6), .unset, .unset, .unset, .unset, .unset, .unset, .unset] [(.ref o11), (.ref w6)])) _
  refine XS.iload X7.here hx rfl (hb hby at_164) rfl ?_
  show Steps p.tables e below (T7.setTop (mkF m 166 #[s0, s1, s2, s3, s4, .val (.int i5), s6, s7, s8, s9, .val (.int i10), .val (.ref o11), .val (.ref w6), .unset, .unset, .unset, .unset, .unset, .unset, .unset] [(.int i10), (.ref o11), (.ref w6)])) _
  refine st8.trans ?_
  show Steps p.tables e below (T8.setTop (mkF m 169 #[s0, s1, s2, s3, s4, .val (.int i5), s6, s7, s8, s9, .val (.int i10), .val (.ref o11), .val (.ref w6), .unset, .unset, .unset, .unset, .unset, .unset, .unset] [(.double g)])) _
  refine XS.dstore X8.here hx rfl (hb hby at_169) rfl (l' := #[s0, s1, s2, s3, s4, .val (.int i5), s6, s7, s8, s9, .val (.int i10), .val (.ref o11), .val (.ref w6), .val (.double g), .second, .unset, .unset, .unset, .unset, .unset]) rfl ?_
  exact kt
set_option maxRecDepth 65536 in
set_option maxHeartbeats 40000000 in
theorem s2_3 {p : Program} {l : Launch} {e : Env} {s : State} {m : MethodId} {args : Array Value} {below : List Frame} {meth : Method} {c : Code} {T0 : State} {locs : List Loc} {sl : Nat} {Z : State} {a0 : Array Value} {h0 : Heap} (n0 : Nat) (g : UInt64) (s0 : Slot) (s1 : Slot) (s2 : Slot) (s3 : Slot) (s4 : Slot) (i5 : Int32) (s6 : Slot) (s7 : Slot) (s8 : Slot) (s9 : Slot) (i10 : Int32) (o11 : Addr) (w6 : Addr)
    (X0 : Stand p l e ({ frames := 5, cells := 16, slots := 128, locals := 128 } : Room) s m args below meth c T0 locs 1 sl) (hx : p.tables.exec = Jvm.exec) (hZ : Z.Warmed39 s.vm) (hw : ∀ d ∈ tables_1, d.before a0 Z = true) (hby : c.code = code) (hml : c.maxLocals = 20) (hown : s.vm.findClass "com/example/pesquisa/pesquisa/MeasureScorePinLaw" = some m.cls) (e0 : T0.heap = h0) (S_RECIPROCAL_RANK_AT_10 : Sta Z h0 "com/example/pesquisa/pesquisa/Measure" "RECIPROCAL_RANK_AT_10" "Lcom/example/pesquisa/pesquisa/Measure;" (.ref w6)) (E_w6 : Exa Z h0 w6 "com/example/pesquisa/pesquisa/Measure") (hc102 : ¬ (i5 = (0 : Int32))) (hc116 : ¬ (i5 = (1 : Int32))) (hc130 : ¬ (i5 = (2 : Int32))) (hc144 : i5 = (3 : Int32)) (N0 : Fr n0 locs) (hsl : sl ≤ 3) (hS : MetFree l (⟨"com/example/pesquisa/pesquisa/Measure", "score", "([II)D"⟩ : MethodName) (head1 (Jvm.Cond.code (⟨"com/example/pesquisa/pesquisa/Measure", "score", "([II)D"⟩ : MethodName) prog_6_method_5_code 5 (some .double) :: []) ({ frames := 1, cells := 0, slots := 0, locals := 40 } : Room)) (fun a U => a = #[(.ref w6), (.ref o11), (.int i10)] ∧ Z.Warmed39 U.vm ∧ U.heap = h0) (fun _ _ _ _ _ => True) (fun _ U o U' => ∃ v L, o = .returned v ∧ QP (some (.double g)) h0 n0 v U'.heap L ∧ FrameEnd U o U' L ({ frames := 1, cells := 0, slots := 0, locals := 40 } : Room).cells ({ frames := 1, cells := 0, slots := 0, locals := 40 } : Room).slots)) :
    ∃ (T' : State) (locs' : List Loc), Stand p l e ({ frames := 5, cells := 16, slots := 128, locals := 128 } : Room) s m args below meth c T' locs' 1 sl ∧ T'.heap = h0 ∧ Fr n0 locs' ∧
      ∀ target, Steps p.tables e below (T'.setTop (mkF m 171 #[s0, s1, s2, s3, s4, .val (.int i5), s6, s7, s8, s9, .val (.int i10), .val (.ref o11), .val (.ref w6), .val (.double g), .second, .unset, .unset, .unset, .unset, .unset] [])) target → Steps p.tables e below (T0.setTop (mkF m 100 #[s0, s1, s2, s3, s4, .val (.int i5), s6, s7, s8, s9, .val (.int i10), .val (.ref o11), .unset, .unset, .unset, .unset, .unset, .unset, .unset, .unset] [])) target := by
  obtain ⟨T7, X7, e7, st7⟩ := getS2 X0 hx hZ hown (host := "") (Or.inl (hw _ (List.mem_of_getElem? (i := 30) rfl))) Via.refl e0 S_RECIPROCAL_RANK_AT_10 (g := (mkF m 147 #[s0, s1, s2, s3, s4, .val (.int i5), s6, s7, s8, s9, .val (.int i10), .val (.ref o11), .unset, .unset, .unset, .unset, .unset, .unset, .unset, .unset] [])) rfl (hb hby at_147)
  obtain ⟨cq8, kq8, q8a, q8b, q8c⟩ := isOf hZ e7 E_w6
  obtain ⟨_, _, ⟨T8, L8, k8, n8⟩, -, X8, ⟨Lc8, hQ8, l8, y8, z8⟩, st8⟩ := X7.virtualBack hx (y := (⟨"com/example/pesquisa/pesquisa/Measure", "score", "([II)D"⟩ : MethodName)) (z := (⟨"com/example/pesquisa/pesquisa/Measure", "score", "([II)D"⟩ : MethodName)) hown (mvT hZ (hw _ (List.mem_of_getElem? (i := 13) rfl))) (mvT hZ (hw _ (List.mem_of_getElem? (i := 14) rfl))) (notFace_of_selects (args := #[]) (mvT hZ (hw _ (List.mem_of_getElem? (i := 16) rfl)))) (mvT hZ (hw _ (List.mem_of_getElem? (i := 16) rfl))) (mvT hZ (hw _ (List.mem_of_getElem? (i := 15) rfl))) (by decide) (backOf (W := 0) hS hZ (hw _ (List.mem_of_getElem? (i := 17) rfl)) (hw _ (List.mem_of_getElem? (i := 11) rfl)) (by decide) (by decide)) q8a q8c (g := (mkF m 166 #[s0, s1, s2, s3, s4, .val (.int i5), s6, s7, s8, s9, .val (.int i10), .val (.ref o11), .val (.ref w6), .unset, .unset, .unset, .unset, .unset, .unset, .unset] [(.int i10), (.ref o11), (.ref w6)])) rfl (by rw [hml]; rfl) (Steps.refl _) (argsL := [(.ref o11), (.int i10)]) (rest := []) (lenOf pd_0_2 rfl) rfl (by show 2 * 0 + _ ≤ _; exact Nat.le_of_eq rfl) (hb hby at_166) (fun _ _ => ⟨rfl, e7, (by decide : 1 + 0 ≤ _), (by show sl + 0 ≤ 128; omega)⟩)
  dsimp only [Pt.U, Pt.locs, Pt.cells, Pt.slots] at X8 l8 y8 z8 st8 hQ8
  subst l8 y8 z8
  obtain ⟨rfl, N8q, eh8⟩ := hQ8
  have N8 := Fr.app N0 N8q
  refine ⟨T8, _, X8, eh8, N8, fun target kt => ?_⟩
  show Steps p.tables e below (T0.setTop (mkF m 100 #[s0, s1, s2, s3, s4, .val (.int i5), s6, s7, s8, s9, .val (.int i10), .val (.ref o11), .unset, .unset, .unset, .unset, .unset, .unset, .unset, .unset] [])) _
  refine XS.iload X0.here hx rfl (hb hby at_100) rfl ?_
  show Steps p.tables e below (T0.setTop (mkF m 102 #[s0, s1, s2, s3, s4, .val (.int i5), s6, s7, s8, s9, .val (.int i10), .val (.ref o11), .unset, .unset, .unset, .unset, .unset, .unset, .unset, .unset] [(.int i5)])) _
  refine XS.ifYes X0.here hx rfl (pc0 := 102) (pc' := 113) rfl (hb hby at_102) rfl ((if0 _ _).trans (feq hc102).2) (by decide) (by decide) ?_
  show Steps p.tables e below (T0.setTop (mkF m 113 #[s0, s1, s2, s3, s4, .val (.int i5), s6, s7, s8, s9, .val (.int i10), .val (.ref o11), .unset, .unset, .unset, .unset, .unset, .unset, .unset, .unset] [])) _
  refine XS.iload X0.here hx rfl (hb hby at_113) rfl ?_
  show Steps p.tables e below (T0.setTop (mkF m 115 #[s0, s1, s2, s3, s4, .val (.int i5), s6, s7, s8, s9, .val (.int i10), .val (.ref o11), .unset, .unset, .unset, .unset, .unset, .unset, .unset, .unset] [(.int i5)])) _
  refine XS.iconst X0.here hx rfl (hb hby at_115) ?_
  show Steps p.tables e below (T0.setTop (mkF m 116 #[s0, s1, s2, s3, s4, .val (.int i5), s6, s7, s8, s9, .val (.int i10), .val (.ref o11), .unset, .unset, .unset, .unset, .unset, .unset, .unset, .unset] [(.int (1 : Int32)), (.int i5)])) _
  refine XS.icmpYes X0.here hx rfl (pc0 := 116) (pc' := 127) rfl (hb hby at_116) rfl (feq hc116).2 (by decide) (by decide) ?_
  show Steps p.tables e below (T0.setTop (mkF m 127 #[s0, s1, s2, s3, s4, .val (.int i5), s6, s7, s8, s9, .val (.int i10), .val (.ref o11), .unset, .unset, .unset, .unset, .unset, .unset, .unset, .unset] [])) _
  refine XS.iload X0.here hx rfl (hb hby at_127) rfl ?_
  show Steps p.tables e below (T0.setTop (mkF m 129 #[s0, s1, s2, s3, s4, .val (.int i5), s6, s7, s8, s9, .val (.int i10), .val (.ref o11), .unset, .unset, .unset, .unset, .unset, .unset, .unset, .unset] [(.int i5)])) _
  refine XS.iconst X0.here hx rfl (hb hby at_129) ?_
  show Steps p.tables e below (T0.setTop (mkF m 130 #[s0, s1, s2, s3, s4, .val (.int i5), s6, s7, s8, s9, .val (.int i10), .val (.ref o11), .unset, .unset, .unset, .unset, .unset, .unset, .unset, .unset] [(.int (2 : Int32)), (.int i5)])) _
  refine XS.icmpYes X0.here hx rfl (pc0 := 130) (pc' := 141) rfl (hb hby at_130) rfl (feq hc130).2 (by decide) (by decide) ?_
  show Steps p.tables e below (T0.setTop (mkF m 141 #[s0, s1, s2, s3, s4, .val (.int i5), s6, s7, s8, s9, .val (.int i10), .val (.ref o11), .unset, .unset, .unset, .unset, .unset, .unset, .unset, .unset] [])) _
  refine XS.iload X0.here hx rfl (hb hby at_141) rfl ?_
  show Steps p.tables e below (T0.setTop (mkF m 143 #[s0, s1, s2, s3, s4, .val (.int i5), s6, s7, s8, s9, .val (.int i10), .val (.ref o11), .unset, .unset, .unset, .unset, .unset, .unset, .unset, .unset] [(.int i5)])) _
  refine XS.iconst X0.here hx rfl (hb hby at_143) ?_
  show Steps p.tables e below (T0.setTop (mkF m 144 #[s0, s1, s2, s3, s4, .val (.int i5), s6, s7, s8, s9, .val (.int i10), .val (.ref o11), .unset, .unset, .unset, .unset, .unset, .unset, .unset, .unset] [(.int (3 : Int32)), (.int i5)])) _
  refine XS.icmpNo X0.here hx rfl (hb hby at_144) rfl (teq hc144).2 ?_
  show Steps p.tables e below (T0.setTop (mkF m 147 #[s0, s1, s2, s3, s4, .val (.int i5), s6, s7, s8, s9, .val (.int i10), .val (.ref o11), .unset, .unset, .unset, .unset, .unset, .unset, .unset, .unset] [])) _
  refine st7 _ ?_
  show Steps p.tables e below (T7.setTop (mkF m 150 #[s0, s1, s2, s3, s4, .val (.int i5), s6, s7, s8, s9, .val (.int i10), .val (.ref o11), .unset, .unset, .unset, .unset, .unset, .unset, .unset, .unset] [(.ref w6)])) _
  refine XS.astore X7.here hx rfl (hb hby at_150) rfl rfl (l' := #[s0, s1, s2, s3, s4, .val (.int i5), s6, s7, s8, s9, .val (.int i10), .val (.ref o11), .val (.ref w6), .unset, .unset, .unset, .unset, .unset, .unset, .unset]) rfl ?_
  show Steps p.tables e below (T7.setTop (mkF m 152 #[s0, s1, s2, s3, s4, .val (.int i5), s6, s7, s8, s9, .val (.int i10), .val (.ref o11), .val (.ref w6), .unset, .unset, .unset, .unset, .unset, .unset, .unset] [])) _
  refine XS.goto X7.here hx rfl (pc0 := 152) (pc' := 160) rfl (hb hby at_152) (by decide) (by decide) ?_
  show Steps p.tables e below (T7.setTop (mkF m 160 #[s0, s1, s2, s3, s4, .val (.int i5), s6, s7, s8, s9, .val (.int i10), .val (.ref o11), .val (.ref w6), .unset, .unset, .unset, .unset, .unset, .unset, .unset] [])) _
  refine XS.aload X7.here hx rfl (hb hby at_160) rfl rfl ?_
  show Steps p.tables e below (T7.setTop (mkF m 162 #[s0, s1, s2, s3, s4, .val (.int i5), s6, s7, s8, s9, .val (.int i10), .val (.ref o11), .val (.ref w6), .unset, .unset, .unset, .unset, .unset, .unset, .unset] [(.ref w6)])) _
  refine XS.aload X7.here hx rfl (hb hby at_162) rfl rfl ?_
  show Steps p.tables e below (T7.setTop (mkF m 164 #[s0, s1, s2, s3, s4, .val (.int i5), s6, s7, s8, s9, .val (.int i10), .val (.ref o11), .val (.ref w6), .unset, .unset, .unset, .unset, .unset, .unset, .unset] [(.ref o11), (.ref w6)])) _
  refine XS.iload X7.here hx rfl (hb hby at_164) rfl ?_
  show Steps p.tables e below (T7.setTop (mkF m 166 #[s0, s1, s2, s3, s4, .val (.int i5), s6, s7, s8, s9, .val (.int i10), .val (.ref o11), .val (.ref w6), .unset, .unset, .unset, .unset, .unset, .unset, .unset] [(.int i10), (.ref o11), (.ref w6)])) _
  refine st8.trans ?_
  show Steps p.tables e below (T8.setTop (mkF m 169 #[s0, s1, s2, s3, s4, .val (.int i5), s6, s7, s8, s9, .val (.int i10), .val (.ref o11), .val (.ref w6), .unset, .unset, .unset, .unset, .unset, .unset, .unset] [(.double g)])) _
  refine XS.dstore X8.here hx rfl (hb hby at_169) rfl (l' := #[s0, s1, s2, s3, s4, .val (.int i5), s6, s7, s8, s9, .val (.int i10), .val (.ref o11), .val (.ref w6), .val (.double g), .second, .unset, .unset, .unset, .unset, .unset]) rfl ?_
  exact kt
set_option maxRecDepth 65536 in
set_option maxHeartbeats 40000000 in
theorem s2_4 {p : Program} {l : Launch} {e : Env} {s : State} {m : MethodId} {args : Array Value} {below : List Frame} {meth : Method} {c : Code} {T0 : State} {locs : List Loc} {sl : Nat} {Z : State} {a0 : Array Value} {h0 : Heap} (n0 : Nat) (g : UInt64) (s0 : Slot) (s1 : Slot) (s2 : Slot) (s3 : Slot) (s4 : Slot) (i5 : Int32) (s6 : Slot) (s7 : Slot) (s8 : Slot) (s9 : Slot) (i10 : Int32) (o11 : Addr) (w6 : Addr)
    (X0 : Stand p l e ({ frames := 5, cells := 16, slots := 128, locals := 128 } : Room) s m args below meth c T0 locs 1 sl) (hx : p.tables.exec = Jvm.exec) (hZ : Z.Warmed39 s.vm) (hw : ∀ d ∈ tables_1, d.before a0 Z = true) (hby : c.code = code) (hml : c.maxLocals = 20) (hown : s.vm.findClass "com/example/pesquisa/pesquisa/MeasureScorePinLaw" = some m.cls) (e0 : T0.heap = h0) (S_SUCCESS_AT_10 : Sta Z h0 "com/example/pesquisa/pesquisa/Measure" "SUCCESS_AT_10" "Lcom/example/pesquisa/pesquisa/Measure;" (.ref w6)) (E_w6 : Exa Z h0 w6 "com/example/pesquisa/pesquisa/Measure") (hc102 : ¬ (i5 = (0 : Int32))) (hc116 : ¬ (i5 = (1 : Int32))) (hc130 : ¬ (i5 = (2 : Int32))) (hc144 : ¬ (i5 = (3 : Int32))) (N0 : Fr n0 locs) (hsl : sl ≤ 3) (hS : MetFree l (⟨"com/example/pesquisa/pesquisa/Measure", "score", "([II)D"⟩ : MethodName) (head1 (Jvm.Cond.code (⟨"com/example/pesquisa/pesquisa/Measure", "score", "([II)D"⟩ : MethodName) prog_6_method_5_code 5 (some .double) :: []) ({ frames := 1, cells := 0, slots := 0, locals := 40 } : Room)) (fun a U => a = #[(.ref w6), (.ref o11), (.int i10)] ∧ Z.Warmed39 U.vm ∧ U.heap = h0) (fun _ _ _ _ _ => True) (fun _ U o U' => ∃ v L, o = .returned v ∧ QP (some (.double g)) h0 n0 v U'.heap L ∧ FrameEnd U o U' L ({ frames := 1, cells := 0, slots := 0, locals := 40 } : Room).cells ({ frames := 1, cells := 0, slots := 0, locals := 40 } : Room).slots)) :
    ∃ (T' : State) (locs' : List Loc), Stand p l e ({ frames := 5, cells := 16, slots := 128, locals := 128 } : Room) s m args below meth c T' locs' 1 sl ∧ T'.heap = h0 ∧ Fr n0 locs' ∧
      ∀ target, Steps p.tables e below (T'.setTop (mkF m 171 #[s0, s1, s2, s3, s4, .val (.int i5), s6, s7, s8, s9, .val (.int i10), .val (.ref o11), .val (.ref w6), .val (.double g), .second, .unset, .unset, .unset, .unset, .unset] [])) target → Steps p.tables e below (T0.setTop (mkF m 100 #[s0, s1, s2, s3, s4, .val (.int i5), s6, s7, s8, s9, .val (.int i10), .val (.ref o11), .unset, .unset, .unset, .unset, .unset, .unset, .unset, .unset] [])) target := by
  obtain ⟨T7, X7, e7, st7⟩ := getS2 X0 hx hZ hown (host := "") (Or.inl (hw _ (List.mem_of_getElem? (i := 43) rfl))) Via.refl e0 S_SUCCESS_AT_10 (g := (mkF m 155 #[s0, s1, s2, s3, s4, .val (.int i5), s6, s7, s8, s9, .val (.int i10), .val (.ref o11), .unset, .unset, .unset, .unset, .unset, .unset, .unset, .unset] [])) rfl (hb hby at_155)
  obtain ⟨cq8, kq8, q8a, q8b, q8c⟩ := isOf hZ e7 E_w6
  obtain ⟨_, _, ⟨T8, L8, k8, n8⟩, -, X8, ⟨Lc8, hQ8, l8, y8, z8⟩, st8⟩ := X7.virtualBack hx (y := (⟨"com/example/pesquisa/pesquisa/Measure", "score", "([II)D"⟩ : MethodName)) (z := (⟨"com/example/pesquisa/pesquisa/Measure", "score", "([II)D"⟩ : MethodName)) hown (mvT hZ (hw _ (List.mem_of_getElem? (i := 13) rfl))) (mvT hZ (hw _ (List.mem_of_getElem? (i := 14) rfl))) (notFace_of_selects (args := #[]) (mvT hZ (hw _ (List.mem_of_getElem? (i := 16) rfl)))) (mvT hZ (hw _ (List.mem_of_getElem? (i := 16) rfl))) (mvT hZ (hw _ (List.mem_of_getElem? (i := 15) rfl))) (by decide) (backOf (W := 0) hS hZ (hw _ (List.mem_of_getElem? (i := 17) rfl)) (hw _ (List.mem_of_getElem? (i := 11) rfl)) (by decide) (by decide)) q8a q8c (g := (mkF m 166 #[s0, s1, s2, s3, s4, .val (.int i5), s6, s7, s8, s9, .val (.int i10), .val (.ref o11), .val (.ref w6), .unset, .unset, .unset, .unset, .unset, .unset, .unset] [(.int i10), (.ref o11), (.ref w6)])) rfl (by rw [hml]; rfl) (Steps.refl _) (argsL := [(.ref o11), (.int i10)]) (rest := []) (lenOf pd_0_2 rfl) rfl (by show 2 * 0 + _ ≤ _; exact Nat.le_of_eq rfl) (hb hby at_166) (fun _ _ => ⟨rfl, e7, (by decide : 1 + 0 ≤ _), (by show sl + 0 ≤ 128; omega)⟩)
  dsimp only [Pt.U, Pt.locs, Pt.cells, Pt.slots] at X8 l8 y8 z8 st8 hQ8
  subst l8 y8 z8
  obtain ⟨rfl, N8q, eh8⟩ := hQ8
  have N8 := Fr.app N0 N8q
  refine ⟨T8, _, X8, eh8, N8, fun target kt => ?_⟩
  show Steps p.tables e below (T0.setTop (mkF m 100 #[s0, s1, s2, s3, s4, .val (.int i5), s6, s7, s8, s9, .val (.int i10), .val (.ref o11), .unset, .unset, .unset, .unset, .unset, .unset, .unset, .unset] [])) _
  refine XS.iload X0.here hx rfl (hb hby at_100) rfl ?_
  show Steps p.tables e below (T0.setTop (mkF m 102 #[s0, s1, s2, s3, s4, .val (.int i5), s6, s7, s8, s9, .val (.int i10), .val (.ref o11), .unset, .unset, .unset, .unset, .unset, .unset, .unset, .unset] [(.int i5)])) _
  refine XS.ifYes X0.here hx rfl (pc0 := 102) (pc' := 113) rfl (hb hby at_102) rfl ((if0 _ _).trans (feq hc102).2) (by decide) (by decide) ?_
  show Steps p.tables e below (T0.setTop (mkF m 113 #[s0, s1, s2, s3, s4, .val (.int i5), s6, s7, s8, s9, .val (.int i10), .val (.ref o11), .unset, .unset, .unset, .unset, .unset, .unset, .unset, .unset] [])) _
  refine XS.iload X0.here hx rfl (hb hby at_113) rfl ?_
  show Steps p.tables e below (T0.setTop (mkF m 115 #[s0, s1, s2, s3, s4, .val (.int i5), s6, s7, s8, s9, .val (.int i10), .val (.ref o11), .unset, .unset, .unset, .unset, .unset, .unset, .unset, .unset] [(.int i5)])) _
  refine XS.iconst X0.here hx rfl (hb hby at_115) ?_
  show Steps p.tables e below (T0.setTop (mkF m 116 #[s0, s1, s2, s3, s4, .val (.int i5), s6, s7, s8, s9, .val (.int i10), .val (.ref o11), .unset, .unset, .unset, .unset, .unset, .unset, .unset, .unset] [(.int (1 : Int32)), (.int i5)])) _
  refine XS.icmpYes X0.here hx rfl (pc0 := 116) (pc' := 127) rfl (hb hby at_116) rfl (feq hc116).2 (by decide) (by decide) ?_
  show Steps p.tables e below (T0.setTop (mkF m 127 #[s0, s1, s2, s3, s4, .val (.int i5), s6, s7, s8, s9, .val (.int i10), .val (.ref o11), .unset, .unset, .unset, .unset, .unset, .unset, .unset, .unset] [])) _
  refine XS.iload X0.here hx rfl (hb hby at_127) rfl ?_
  show Steps p.tables e below (T0.setTop (mkF m 129 #[s0, s1, s2, s3, s4, .val (.int i5), s6, s7, s8, s9, .val (.int i10), .val (.ref o11), .unset, .unset, .unset, .unset, .unset, .unset, .unset, .unset] [(.int i5)])) _
  refine XS.iconst X0.here hx rfl (hb hby at_129) ?_
  show Steps p.tables e below (T0.setTop (mkF m 130 #[s0, s1, s2, s3, s4, .val (.int i5), s6, s7, s8, s9, .val (.int i10), .val (.ref o11), .unset, .unset, .unset, .unset, .unset, .unset, .unset, .unset] [(.int (2 : Int32)), (.int i5)])) _
  refine XS.icmpYes X0.here hx rfl (pc0 := 130) (pc' := 141) rfl (hb hby at_130) rfl (feq hc130).2 (by decide) (by decide) ?_
  show Steps p.tables e below (T0.setTop (mkF m 141 #[s0, s1, s2, s3, s4, .val (.int i5), s6, s7, s8, s9, .val (.int i10), .val (.ref o11), .unset, .unset, .unset, .unset, .unset, .unset, .unset, .unset] [])) _
  refine XS.iload X0.here hx rfl (hb hby at_141) rfl ?_
  show Steps p.tables e below (T0.setTop (mkF m 143 #[s0, s1, s2, s3, s4, .val (.int i5), s6, s7, s8, s9, .val (.int i10), .val (.ref o11), .unset, .unset, .unset, .unset, .unset, .unset, .unset, .unset] [(.int i5)])) _
  refine XS.iconst X0.here hx rfl (hb hby at_143) ?_
  show Steps p.tables e below (T0.setTop (mkF m 144 #[s0, s1, s2, s3, s4, .val (.int i5), s6, s7, s8, s9, .val (.int i10), .val (.ref o11), .unset, .unset, .unset, .unset, .unset, .unset, .unset, .unset] [(.int (3 : Int32)), (.int i5)])) _
  refine XS.icmpYes X0.here hx rfl (pc0 := 144) (pc' := 155) rfl (hb hby at_144) rfl (feq hc144).2 (by decide) (by decide) ?_
  show Steps p.tables e below (T0.setTop (mkF m 155 #[s0, s1, s2, s3, s4, .val (.int i5), s6, s7, s8, s9, .val (.int i10), .val (.ref o11), .unset, .unset, .unset, .unset, .unset, .unset, .unset, .unset] [])) _
  refine st7 _ ?_
  show Steps p.tables e below (T7.setTop (mkF m 158 #[s0, s1, s2, s3, s4, .val (.int i5), s6, s7, s8, s9, .val (.int i10), .val (.ref o11), .unset, .unset, .unset, .unset, .unset, .unset, .unset, .unset] [(.ref w6)])) _
  refine XS.astore X7.here hx rfl (hb hby at_158) rfl rfl (l' := #[s0, s1, s2, s3, s4, .val (.int i5), s6, s7, s8, s9, .val (.int i10), .val (.ref o11), .val (.ref w6), .unset, .unset, .unset, .unset, .unset, .unset, .unset]) rfl ?_
  show Steps p.tables e below (T7.setTop (mkF m 160 #[s0, s1, s2, s3, s4, .val (.int i5), s6, s7, s8, s9, .val (.int i10), .val (.ref o11), .val (.ref w6), .unset, .unset, .unset, .unset, .unset, .unset, .unset] [])) _
  refine XS.aload X7.here hx rfl (hb hby at_160) rfl rfl ?_
  show Steps p.tables e below (T7.setTop (mkF m 162 #[s0, s1, s2, s3, s4, .val (.int i5), s6, s7, s8, s9, .val (.int i10), .val (.ref o11), .val (.ref w6), .unset, .unset, .unset, .unset, .unset, .unset, .unset] [(.ref w6)])) _
  refine XS.aload X7.here hx rfl (hb hby at_162) rfl rfl ?_
  show Steps p.tables e below (T7.setTop (mkF m 164 #[s0, s1, s2, s3, s4, .val (.int i5), s6, s7, s8, s9, .val (.int i10), .val (.ref o11), .val (.ref w6), .unset, .unset, .unset, .unset, .unset, .unset, .unset] [(.ref o11), (.ref w6)])) _
  refine XS.iload X7.here hx rfl (hb hby at_164) rfl ?_
  show Steps p.tables e below (T7.setTop (mkF m 166 #[s0, s1, s2, s3, s4, .val (.int i5), s6, s7, s8, s9, .val (.int i10), .val (.ref o11), .val (.ref w6), .unset, .unset, .unset, .unset, .unset, .unset, .unset] [(.int i10), (.ref o11), (.ref w6)])) _
  refine st8.trans ?_
  show Steps p.tables e below (T8.setTop (mkF m 169 #[s0, s1, s2, s3, s4, .val (.int i5), s6, s7, s8, s9, .val (.int i10), .val (.ref o11), .val (.ref w6), .unset, .unset, .unset, .unset, .unset, .unset, .unset] [(.double g)])) _
  refine XS.dstore X8.here hx rfl (hb hby at_169) rfl (l' := #[s0, s1, s2, s3, s4, .val (.int i5), s6, s7, s8, s9, .val (.int i10), .val (.ref o11), .val (.ref w6), .val (.double g), .second, .unset, .unset, .unset, .unset, .unset]) rfl ?_
  exact kt
set_option maxRecDepth 65536 in
set_option maxHeartbeats 40000000 in
theorem tl0_0 {p : Program} {l : Launch} {e : Env} {R : Room} {s : State} {m : MethodId} {args : Array Value} {below : List Frame} {meth : Method} {c : Code} {T0 : State} {locs : List Loc} {cells slots : Nat} {Z : State} {a0 : Array Value} {h0 : Heap} (s0 : Slot) (s1 : Slot) (s2 : Slot) (s3 : Slot) (s4 : Slot) (i5 : Int32) (i6 : Int32) (s7 : Slot) (s8 : Slot) (s9 : Slot) (i10 : Int32) (s11 : Slot) (s12 : Slot) (s13 : Slot) (s14 : Slot) (r252 : UInt64)
    (X0 : Stand p l e R s m args below meth c T0 locs cells slots) (hx : p.tables.exec = Jvm.exec) (hZ : Z.Warmed39 s.vm) (hw : ∀ d ∈ tables_1, d.before a0 Z = true) (hby : c.code = code) (hml : c.maxLocals = 20) (hown : s.vm.findClass "com/example/pesquisa/pesquisa/MeasureScorePinLaw" = some m.cls) (e0 : T0.heap = h0) (hc173 : ¬ ((0 : Int32) < i6)) (hc192 : i5 = (0 : Int32)) (hc201 : i6 < (1 : Int32)) (hc214 : i6 < (2 : Int32)) (hc232 : i6 < (3 : Int32)) (hv252 : (FP.ddiv FP.dconst0 (FP.i2d i10)) = r252) (hn252 : Jvm.Free.Fl.NoNaN64 (FP.ddiv FP.dconst0 (FP.i2d i10))) :
    ∃ (T' : State), Stand p l e R s m args below meth c T' locs cells slots ∧ T'.heap = h0 ∧
      ∀ target, Steps p.tables e below (T'.setTop (mkF m 397 #[s0, s1, s2, s3, s4, .val (.int i5), .val (.int i6), s7, s8, s9, .val (.int i10), s11, s12, s13, s14, .val (.int (0 : Int32)), .val (.double r252), .second, .val (.double FP.dconst0), .second] [])) target → Steps p.tables e below (T0.setTop (mkF m 171 #[s0, s1, s2, s3, s4, .val (.int i5), .val (.int i6), s7, s8, s9, .val (.int i10), s11, s12, s13, s14, .unset, .unset, .unset, .unset, .unset] [])) target := by

  refine ⟨T0, X0, e0, fun target kt => ?_⟩
  show Steps p.tables e below (T0.setTop (mkF m 171 #[s0, s1, s2, s3, s4, .val (.int i5), .val (.int i6), s7, s8, s9, .val (.int i10), s11, s12, s13, s14, .unset, .unset, .unset, .unset, .unset] [])) _
  refine XS.iload X0.here hx rfl (hb hby at_171) rfl ?_
  show Steps p.tables e below (T0.setTop (mkF m 173 #[s0, s1, s2, s3, s4, .val (.int i5), .val (.int i6), s7, s8, s9, .val (.int i10), s11, s12, s13, s14, .unset, .unset, .unset, .unset, .unset] [(.int i6)])) _
  refine XS.ifYes X0.here hx rfl (pc0 := 173) (pc' := 187) rfl (hb hby at_173) rfl ((if0 _ _).trans (flt hc173).2.2.2) (by decide) (by decide) ?_
  show Steps p.tables e below (T0.setTop (mkF m 187 #[s0, s1, s2, s3, s4, .val (.int i5), .val (.int i6), s7, s8, s9, .val (.int i10), s11, s12, s13, s14, .unset, .unset, .unset, .unset, .unset] [])) _
  refine XS.iconst X0.here hx rfl (hb hby at_187) ?_
  show Steps p.tables e below (T0.setTop (mkF m 188 #[s0, s1, s2, s3, s4, .val (.int i5), .val (.int i6), s7, s8, s9, .val (.int i10), s11, s12, s13, s14, .unset, .unset, .unset, .unset, .unset] [(.int (0 : Int32))])) _
  refine XS.istore X0.here hx rfl (hb hby at_188) rfl (l' := #[s0, s1, s2, s3, s4, .val (.int i5), .val (.int i6), s7, s8, s9, .val (.int i10), s11, s12, s13, s14, .val (.int (0 : Int32)), .unset, .unset, .unset, .unset]) rfl ?_
  show Steps p.tables e below (T0.setTop (mkF m 190 #[s0, s1, s2, s3, s4, .val (.int i5), .val (.int i6), s7, s8, s9, .val (.int i10), s11, s12, s13, s14, .val (.int (0 : Int32)), .unset, .unset, .unset, .unset] [])) _
  refine XS.iload X0.here hx rfl (hb hby at_190) rfl ?_
  show Steps p.tables e below (T0.setTop (mkF m 192 #[s0, s1, s2, s3, s4, .val (.int i5), .val (.int i6), s7, s8, s9, .val (.int i10), s11, s12, s13, s14, .val (.int (0 : Int32)), .unset, .unset, .unset, .unset] [(.int i5)])) _
  refine XS.ifNo X0.here hx rfl (hb hby at_192) rfl ((if0 _ _).trans (teq hc192).2) ?_
  show Steps p.tables e below (T0.setTop (mkF m 195 #[s0, s1, s2, s3, s4, .val (.int i5), .val (.int i6), s7, s8, s9, .val (.int i10), s11, s12, s13, s14, .val (.int (0 : Int32)), .unset, .unset, .unset, .unset] [])) _
  refine XS.dconst0 X0.here hx rfl (hb hby at_195) rfl ?_
  show Steps p.tables e below (T0.setTop (mkF m 196 #[s0, s1, s2, s3, s4, .val (.int i5), .val (.int i6), s7, s8, s9, .val (.int i10), s11, s12, s13, s14, .val (.int (0 : Int32)), .unset, .unset, .unset, .unset] [(.double FP.dconst0)])) _
  refine XS.dstore X0.here hx rfl (hb hby at_196) rfl (l' := #[s0, s1, s2, s3, s4, .val (.int i5), .val (.int i6), s7, s8, s9, .val (.int i10), s11, s12, s13, s14, .val (.int (0 : Int32)), .unset, .unset, .val (.double FP.dconst0), .second]) rfl ?_
  show Steps p.tables e below (T0.setTop (mkF m 198 #[s0, s1, s2, s3, s4, .val (.int i5), .val (.int i6), s7, s8, s9, .val (.int i10), s11, s12, s13, s14, .val (.int (0 : Int32)), .unset, .unset, .val (.double FP.dconst0), .second] [])) _
  refine XS.iload X0.here hx rfl (hb hby at_198) rfl ?_
  show Steps p.tables e below (T0.setTop (mkF m 200 #[s0, s1, s2, s3, s4, .val (.int i5), .val (.int i6), s7, s8, s9, .val (.int i10), s11, s12, s13, s14, .val (.int (0 : Int32)), .unset, .unset, .val (.double FP.dconst0), .second] [(.int i6)])) _
  refine XS.iconst X0.here hx rfl (hb hby at_200) ?_
  show Steps p.tables e below (T0.setTop (mkF m 201 #[s0, s1, s2, s3, s4, .val (.int i5), .val (.int i6), s7, s8, s9, .val (.int i10), s11, s12, s13, s14, .val (.int (0 : Int32)), .unset, .unset, .val (.double FP.dconst0), .second] [(.int (1 : Int32)), (.int i6)])) _
  refine XS.icmpYes X0.here hx rfl (pc0 := 201) (pc' := 211) rfl (hb hby at_201) rfl (tlt hc201).1 (by decide) (by decide) ?_
  show Steps p.tables e below (T0.setTop (mkF m 211 #[s0, s1, s2, s3, s4, .val (.int i5), .val (.int i6), s7, s8, s9, .val (.int i10), s11, s12, s13, s14, .val (.int (0 : Int32)), .unset, .unset, .val (.double FP.dconst0), .second] [])) _
  refine XS.iload X0.here hx rfl (hb hby at_211) rfl ?_
  show Steps p.tables e below (T0.setTop (mkF m 213 #[s0, s1, s2, s3, s4, .val (.int i5), .val (.int i6), s7, s8, s9, .val (.int i10), s11, s12, s13, s14, .val (.int (0 : Int32)), .unset, .unset, .val (.double FP.dconst0), .second] [(.int i6)])) _
  refine XS.iconst X0.here hx rfl (hb hby at_213) ?_
  show Steps p.tables e below (T0.setTop (mkF m 214 #[s0, s1, s2, s3, s4, .val (.int i5), .val (.int i6), s7, s8, s9, .val (.int i10), s11, s12, s13, s14, .val (.int (0 : Int32)), .unset, .unset, .val (.double FP.dconst0), .second] [(.int (2 : Int32)), (.int i6)])) _
  refine XS.icmpYes X0.here hx rfl (pc0 := 214) (pc' := 229) rfl (hb hby at_214) rfl (tlt hc214).1 (by decide) (by decide) ?_
  show Steps p.tables e below (T0.setTop (mkF m 229 #[s0, s1, s2, s3, s4, .val (.int i5), .val (.int i6), s7, s8, s9, .val (.int i10), s11, s12, s13, s14, .val (.int (0 : Int32)), .unset, .unset, .val (.double FP.dconst0), .second] [])) _
  refine XS.iload X0.here hx rfl (hb hby at_229) rfl ?_
  show Steps p.tables e below (T0.setTop (mkF m 231 #[s0, s1, s2, s3, s4, .val (.int i5), .val (.int i6), s7, s8, s9, .val (.int i10), s11, s12, s13, s14, .val (.int (0 : Int32)), .unset, .unset, .val (.double FP.dconst0), .second] [(.int i6)])) _
  refine XS.iconst X0.here hx rfl (hb hby at_231) ?_
  show Steps p.tables e below (T0.setTop (mkF m 232 #[s0, s1, s2, s3, s4, .val (.int i5), .val (.int i6), s7, s8, s9, .val (.int i10), s11, s12, s13, s14, .val (.int (0 : Int32)), .unset, .unset, .val (.double FP.dconst0), .second] [(.int (3 : Int32)), (.int i6)])) _
  refine XS.icmpYes X0.here hx rfl (pc0 := 232) (pc' := 247) rfl (hb hby at_232) rfl (tlt hc232).1 (by decide) (by decide) ?_
  show Steps p.tables e below (T0.setTop (mkF m 247 #[s0, s1, s2, s3, s4, .val (.int i5), .val (.int i6), s7, s8, s9, .val (.int i10), s11, s12, s13, s14, .val (.int (0 : Int32)), .unset, .unset, .val (.double FP.dconst0), .second] [])) _
  refine XS.dload X0.here hx rfl (hb hby at_247) rfl ?_
  show Steps p.tables e below (T0.setTop (mkF m 249 #[s0, s1, s2, s3, s4, .val (.int i5), .val (.int i6), s7, s8, s9, .val (.int i10), s11, s12, s13, s14, .val (.int (0 : Int32)), .unset, .unset, .val (.double FP.dconst0), .second] [(.double FP.dconst0)])) _
  refine XS.iload X0.here hx rfl (hb hby at_249) rfl ?_
  show Steps p.tables e below (T0.setTop (mkF m 251 #[s0, s1, s2, s3, s4, .val (.int i5), .val (.int i6), s7, s8, s9, .val (.int i10), s11, s12, s13, s14, .val (.int (0 : Int32)), .unset, .unset, .val (.double FP.dconst0), .second] [(.int i10), (.double FP.dconst0)])) _
  refine XS.i2dS X0.here hx rfl (hb hby at_251) rfl rfl ?_
  show Steps p.tables e below (T0.setTop (mkF m 252 #[s0, s1, s2, s3, s4, .val (.int i5), .val (.int i6), s7, s8, s9, .val (.int i10), s11, s12, s13, s14, .val (.int (0 : Int32)), .unset, .unset, .val (.double FP.dconst0), .second] [(.double (FP.i2d i10)), (.double FP.dconst0)])) _
  refine XS.ddivS X0.here hx rfl (hb hby at_252) rfl hn252 hv252 ?_
  show Steps p.tables e below (T0.setTop (mkF m 253 #[s0, s1, s2, s3, s4, .val (.int i5), .val (.int i6), s7, s8, s9, .val (.int i10), s11, s12, s13, s14, .val (.int (0 : Int32)), .unset, .unset, .val (.double FP.dconst0), .second] [(.double r252)])) _
  refine XS.dstore X0.here hx rfl (hb hby at_253) rfl (l' := #[s0, s1, s2, s3, s4, .val (.int i5), .val (.int i6), s7, s8, s9, .val (.int i10), s11, s12, s13, s14, .val (.int (0 : Int32)), .val (.double r252), .second, .val (.double FP.dconst0), .second]) rfl ?_
  show Steps p.tables e below (T0.setTop (mkF m 255 #[s0, s1, s2, s3, s4, .val (.int i5), .val (.int i6), s7, s8, s9, .val (.int i10), s11, s12, s13, s14, .val (.int (0 : Int32)), .val (.double r252), .second, .val (.double FP.dconst0), .second] [])) _
  refine XS.goto X0.here hx rfl (pc0 := 255) (pc' := 397) rfl (hb hby at_255) (by decide) (by decide) ?_
  exact kt
set_option maxRecDepth 65536 in
set_option maxHeartbeats 40000000 in
theorem tl0_1 {p : Program} {l : Launch} {e : Env} {R : Room} {s : State} {m : MethodId} {args : Array Value} {below : List Frame} {meth : Method} {c : Code} {T0 : State} {locs : List Loc} {cells slots : Nat} {Z : State} {a0 : Array Value} {h0 : Heap} (s0 : Slot) (s1 : Slot) (s2 : Slot) (s3 : Slot) (s4 : Slot) (i5 : Int32) (i6 : Int32) (i7 : Int32) (s8 : Slot) (s9 : Slot) (i10 : Int32) (s11 : Slot) (s12 : Slot) (s13 : Slot) (s14 : Slot) (r208 : UInt64) (r252 : UInt64)
    (X0 : Stand p l e R s m args below meth c T0 locs cells slots) (hx : p.tables.exec = Jvm.exec) (hZ : Z.Warmed39 s.vm) (hw : ∀ d ∈ tables_1, d.before a0 Z = true) (hby : c.code = code) (hml : c.maxLocals = 20) (hown : s.vm.findClass "com/example/pesquisa/pesquisa/MeasureScorePinLaw" = some m.cls) (e0 : T0.heap = h0) (hc173 : (0 : Int32) < i6) (hc192 : i5 = (0 : Int32)) (hc201 : ¬ (i6 < (1 : Int32))) (hv208 : (FP.ddiv FP.dconst1 (FP.i2d i7)) = r208) (hn208 : Jvm.Free.Fl.NoNaN64 (FP.ddiv FP.dconst1 (FP.i2d i7))) (hc214 : i6 < (2 : Int32)) (hc232 : i6 < (3 : Int32)) (hv252 : (FP.ddiv r208 (FP.i2d i10)) = r252) (hn252 : Jvm.Free.Fl.NoNaN64 (FP.ddiv r208 (FP.i2d i10))) :
    ∃ (T' : State), Stand p l e R s m args below meth c T' locs cells slots ∧ T'.heap = h0 ∧
      ∀ target, Steps p.tables e below (T'.setTop (mkF m 397 #[s0, s1, s2, s3, s4, .val (.int i5), .val (.int i6), .val (.int i7), s8, s9, .val (.int i10), s11, s12, s13, s14, .val (.int (if if_icmp.holds .gt i7 (10 : Int32) = true then (0 : Int32) else 1)), .val (.double r252), .second, .val (.double r208), .second] [])) target → Steps p.tables e below (T0.setTop (mkF m 171 #[s0, s1, s2, s3, s4, .val (.int i5), .val (.int i6), .val (.int i7), s8, s9, .val (.int i10), s11, s12, s13, s14, .unset, .unset, .unset, .unset, .unset] [])) target := by

  refine ⟨T0, X0, e0, fun target kt => ?_⟩
  show Steps p.tables e below (T0.setTop (mkF m 171 #[s0, s1, s2, s3, s4, .val (.int i5), .val (.int i6), .val (.int i7), s8, s9, .val (.int i10), s11, s12, s13, s14, .unset, .unset, .unset, .unset, .unset] [])) _
  refine XS.iload X0.here hx rfl (hb hby at_171) rfl ?_
  show Steps p.tables e below (T0.setTop (mkF m 173 #[s0, s1, s2, s3, s4, .val (.int i5), .val (.int i6), .val (.int i7), s8, s9, .val (.int i10), s11, s12, s13, s14, .unset, .unset, .unset, .unset, .unset] [(.int i6)])) _
  refine XS.ifNo X0.here hx rfl (hb hby at_173) rfl ((if0 _ _).trans (tlt hc173).2.2.2) ?_
  show Steps p.tables e below (T0.setTop (mkF m 176 #[s0, s1, s2, s3, s4, .val (.int i5), .val (.int i6), .val (.int i7), s8, s9, .val (.int i10), s11, s12, s13, s14, .unset, .unset, .unset, .unset, .unset] [])) _
  refine XS.iload X0.here hx rfl (hb hby at_176) rfl ?_
  show Steps p.tables e below (T0.setTop (mkF m 178 #[s0, s1, s2, s3, s4, .val (.int i5), .val (.int i6), .val (.int i7), s8, s9, .val (.int i10), s11, s12, s13, s14, .unset, .unset, .unset, .unset, .unset] [(.int i7)])) _
  refine XS.bipush X0.here hx rfl (hb hby at_178) ?_
  show Steps p.tables e below (T0.setTop (mkF m 180 #[s0, s1, s2, s3, s4, .val (.int i5), .val (.int i6), .val (.int i7), s8, s9, .val (.int i10), s11, s12, s13, s14, .unset, .unset, .unset, .unset, .unset] [(.int (10 : Int32)), (.int i7)])) _
  refine own_selI X0.here hx (hb hby at_180) (hb hby at_183) (hb hby at_184) (hb hby at_187) ?_
  show Steps p.tables e below (T0.setTop (mkF m 188 #[s0, s1, s2, s3, s4, .val (.int i5), .val (.int i6), .val (.int i7), s8, s9, .val (.int i10), s11, s12, s13, s14, .unset, .unset, .unset, .unset, .unset] [(.int (if if_icmp.holds .gt i7 (10 : Int32) = true then (0 : Int32) else 1))])) _
  refine XS.istore X0.here hx rfl (hb hby at_188) rfl (l' := #[s0, s1, s2, s3, s4, .val (.int i5), .val (.int i6), .val (.int i7), s8, s9, .val (.int i10), s11, s12, s13, s14, .val (.int (if if_icmp.holds .gt i7 (10 : Int32) = true then (0 : Int32) else 1)), .unset, .unset, .unset, .unset]) rfl ?_
  show Steps p.tables e below (T0.setTop (mkF m 190 #[s0, s1, s2, s3, s4, .val (.int i5), .val (.int i6), .val (.int i7), s8, s9, .val (.int i10), s11, s12, s13, s14, .val (.int (if if_icmp.holds .gt i7 (10 : Int32) = true then (0 : Int32) else 1)), .unset, .unset, .unset, .unset] [])) _
  refine XS.iload X0.here hx rfl (hb hby at_190) rfl ?_
  show Steps p.tables e below (T0.setTop (mkF m 192 #[s0, s1, s2, s3, s4, .val (.int i5), .val (.int i6), .val (.int i7), s8, s9, .val (.int i10), s11, s12, s13, s14, .val (.int (if if_icmp.holds .gt i7 (10 : Int32) = true then (0 : Int32) else 1)), .unset, .unset, .unset, .unset] [(.int i5)])) _
  refine XS.ifNo X0.here hx rfl (hb hby at_192) rfl ((if0 _ _).trans (teq hc192).2) ?_
  show Steps p.tables e below (T0.setTop (mkF m 195 #[s0, s1, s2, s3, s4, .val (.int i5), .val (.int i6), .val (.int i7), s8, s9, .val (.int i10), s11, s12, s13, s14, .val (.int (if if_icmp.holds .gt i7 (10 : Int32) = true then (0 : Int32) else 1)), .unset, .unset, .unset, .unset] [])) _
  refine XS.dconst0 X0.here hx rfl (hb hby at_195) rfl ?_
  show Steps p.tables e below (T0.setTop (mkF m 196 #[s0, s1, s2, s3, s4, .val (.int i5), .val (.int i6), .val (.int i7), s8, s9, .val (.int i10), s11, s12, s13, s14, .val (.int (if if_icmp.holds .gt i7 (10 : Int32) = true then (0 : Int32) else 1)), .unset, .unset, .unset, .unset] [(.double FP.dconst0)])) _
  refine XS.dstore X0.here hx rfl (hb hby at_196) rfl (l' := #[s0, s1, s2, s3, s4, .val (.int i5), .val (.int i6), .val (.int i7), s8, s9, .val (.int i10), s11, s12, s13, s14, .val (.int (if if_icmp.holds .gt i7 (10 : Int32) = true then (0 : Int32) else 1)), .unset, .unset, .val (.double FP.dconst0), .second]) rfl ?_
  show Steps p.tables e below (T0.setTop (mkF m 198 #[s0, s1, s2, s3, s4, .val (.int i5), .val (.int i6), .val (.int i7), s8, s9, .val (.int i10), s11, s12, s13, s14, .val (.int (if if_icmp.holds .gt i7 (10 : Int32) = true then (0 : Int32) else 1)), .unset, .unset, .val (.double FP.dconst0), .second] [])) _
  refine XS.iload X0.here hx rfl (hb hby at_198) rfl ?_
  show Steps p.tables e below (T0.setTop (mkF m 200 #[s0, s1, s2, s3, s4, .val (.int i5), .val (.int i6), .val (.int i7), s8, s9, .val (.int i10), s11, s12, s13, s14, .val (.int (if if_icmp.holds .gt i7 (10 : Int32) = true then (0 : Int32) else 1)), .unset, .unset, .val (.double FP.dconst0), .second] [(.int i6)])) _
  refine XS.iconst X0.here hx rfl (hb hby at_200) ?_
  show Steps p.tables e below (T0.setTop (mkF m 201 #[s0, s1, s2, s3, s4, .val (.int i5), .val (.int i6), .val (.int i7), s8, s9, .val (.int i10), s11, s12, s13, s14, .val (.int (if if_icmp.holds .gt i7 (10 : Int32) = true then (0 : Int32) else 1)), .unset, .unset, .val (.double FP.dconst0), .second] [(.int (1 : Int32)), (.int i6)])) _
  refine XS.icmpNo X0.here hx rfl (hb hby at_201) rfl (flt hc201).1 ?_
  show Steps p.tables e below (T0.setTop (mkF m 204 #[s0, s1, s2, s3, s4, .val (.int i5), .val (.int i6), .val (.int i7), s8, s9, .val (.int i10), s11, s12, s13, s14, .val (.int (if if_icmp.holds .gt i7 (10 : Int32) = true then (0 : Int32) else 1)), .unset, .unset, .val (.double FP.dconst0), .second] [])) _
  refine XS.dconst1 X0.here hx rfl (hb hby at_204) rfl ?_
  show Steps p.tables e below (T0.setTop (mkF m 205 #[s0, s1, s2, s3, s4, .val (.int i5), .val (.int i6), .val (.int i7), s8, s9, .val (.int i10), s11, s12, s13, s14, .val (.int (if if_icmp.holds .gt i7 (10 : Int32) = true then (0 : Int32) else 1)), .unset, .unset, .val (.double FP.dconst0), .second] [(.double FP.dconst1)])) _
  refine XS.iload X0.here hx rfl (hb hby at_205) rfl ?_
  show Steps p.tables e below (T0.setTop (mkF m 207 #[s0, s1, s2, s3, s4, .val (.int i5), .val (.int i6), .val (.int i7), s8, s9, .val (.int i10), s11, s12, s13, s14, .val (.int (if if_icmp.holds .gt i7 (10 : Int32) = true then (0 : Int32) else 1)), .unset, .unset, .val (.double FP.dconst0), .second] [(.int i7), (.double FP.dconst1)])) _
  refine XS.i2dS X0.here hx rfl (hb hby at_207) rfl rfl ?_
  show Steps p.tables e below (T0.setTop (mkF m 208 #[s0, s1, s2, s3, s4, .val (.int i5), .val (.int i6), .val (.int i7), s8, s9, .val (.int i10), s11, s12, s13, s14, .val (.int (if if_icmp.holds .gt i7 (10 : Int32) = true then (0 : Int32) else 1)), .unset, .unset, .val (.double FP.dconst0), .second] [(.double (FP.i2d i7)), (.double FP.dconst1)])) _
  refine XS.ddivS X0.here hx rfl (hb hby at_208) rfl hn208 hv208 ?_
  show Steps p.tables e below (T0.setTop (mkF m 209 #[s0, s1, s2, s3, s4, .val (.int i5), .val (.int i6), .val (.int i7), s8, s9, .val (.int i10), s11, s12, s13, s14, .val (.int (if if_icmp.holds .gt i7 (10 : Int32) = true then (0 : Int32) else 1)), .unset, .unset, .val (.double FP.dconst0), .second] [(.double r208)])) _
  refine XS.dstore X0.here hx rfl (hb hby at_209) rfl (l' := #[s0, s1, s2, s3, s4, .val (.int i5), .val (.int i6), .val (.int i7), s8, s9, .val (.int i10), s11, s12, s13, s14, .val (.int (if if_icmp.holds .gt i7 (10 : Int32) = true then (0 : Int32) else 1)), .unset, .unset, .val (.double r208), .second]) rfl ?_
  show Steps p.tables e below (T0.setTop (mkF m 211 #[s0, s1, s2, s3, s4, .val (.int i5), .val (.int i6), .val (.int i7), s8, s9, .val (.int i10), s11, s12, s13, s14, .val (.int (if if_icmp.holds .gt i7 (10 : Int32) = true then (0 : Int32) else 1)), .unset, .unset, .val (.double r208), .second] [])) _
  refine XS.iload X0.here hx rfl (hb hby at_211) rfl ?_
  show Steps p.tables e below (T0.setTop (mkF m 213 #[s0, s1, s2, s3, s4, .val (.int i5), .val (.int i6), .val (.int i7), s8, s9, .val (.int i10), s11, s12, s13, s14, .val (.int (if if_icmp.holds .gt i7 (10 : Int32) = true then (0 : Int32) else 1)), .unset, .unset, .val (.double r208), .second] [(.int i6)])) _
  refine XS.iconst X0.here hx rfl (hb hby at_213) ?_
  show Steps p.tables e below (T0.setTop (mkF m 214 #[s0, s1, s2, s3, s4, .val (.int i5), .val (.int i6), .val (.int i7), s8, s9, .val (.int i10), s11, s12, s13, s14, .val (.int (if if_icmp.holds .gt i7 (10 : Int32) = true then (0 : Int32) else 1)), .unset, .unset, .val (.double r208), .second] [(.int (2 : Int32)), (.int i6)])) _
  refine XS.icmpYes X0.here hx rfl (pc0 := 214) (pc' := 229) rfl (hb hby at_214) rfl (tlt hc214).1 (by decide) (by decide) ?_
  show Steps p.tables e below (T0.setTop (mkF m 229 #[s0, s1, s2, s3, s4, .val (.int i5), .val (.int i6), .val (.int i7), s8, s9, .val (.int i10), s11, s12, s13, s14, .val (.int (if if_icmp.holds .gt i7 (10 : Int32) = true then (0 : Int32) else 1)), .unset, .unset, .val (.double r208), .second] [])) _
  refine XS.iload X0.here hx rfl (hb hby at_229) rfl ?_
  show Steps p.tables e below (T0.setTop (mkF m 231 #[s0, s1, s2, s3, s4, .val (.int i5), .val (.int i6), .val (.int i7), s8, s9, .val (.int i10), s11, s12, s13, s14, .val (.int (if if_icmp.holds .gt i7 (10 : Int32) = true then (0 : Int32) else 1)), .unset, .unset, .val (.double r208), .second] [(.int i6)])) _
  refine XS.iconst X0.here hx rfl (hb hby at_231) ?_
  show Steps p.tables e below (T0.setTop (mkF m 232 #[s0, s1, s2, s3, s4, .val (.int i5), .val (.int i6), .val (.int i7), s8, s9, .val (.int i10), s11, s12, s13, s14, .val (.int (if if_icmp.holds .gt i7 (10 : Int32) = true then (0 : Int32) else 1)), .unset, .unset, .val (.double r208), .second] [(.int (3 : Int32)), (.int i6)])) _
  refine XS.icmpYes X0.here hx rfl (pc0 := 232) (pc' := 247) rfl (hb hby at_232) rfl (tlt hc232).1 (by decide) (by decide) ?_
  show Steps p.tables e below (T0.setTop (mkF m 247 #[s0, s1, s2, s3, s4, .val (.int i5), .val (.int i6), .val (.int i7), s8, s9, .val (.int i10), s11, s12, s13, s14, .val (.int (if if_icmp.holds .gt i7 (10 : Int32) = true then (0 : Int32) else 1)), .unset, .unset, .val (.double r208), .second] [])) _
  refine XS.dload X0.here hx rfl (hb hby at_247) rfl ?_
  show Steps p.tables e below (T0.setTop (mkF m 249 #[s0, s1, s2, s3, s4, .val (.int i5), .val (.int i6), .val (.int i7), s8, s9, .val (.int i10), s11, s12, s13, s14, .val (.int (if if_icmp.holds .gt i7 (10 : Int32) = true then (0 : Int32) else 1)), .unset, .unset, .val (.double r208), .second] [(.double r208)])) _
  refine XS.iload X0.here hx rfl (hb hby at_249) rfl ?_
  show Steps p.tables e below (T0.setTop (mkF m 251 #[s0, s1, s2, s3, s4, .val (.int i5), .val (.int i6), .val (.int i7), s8, s9, .val (.int i10), s11, s12, s13, s14, .val (.int (if if_icmp.holds .gt i7 (10 : Int32) = true then (0 : Int32) else 1)), .unset, .unset, .val (.double r208), .second] [(.int i10), (.double r208)])) _
  refine XS.i2dS X0.here hx rfl (hb hby at_251) rfl rfl ?_
  show Steps p.tables e below (T0.setTop (mkF m 252 #[s0, s1, s2, s3, s4, .val (.int i5), .val (.int i6), .val (.int i7), s8, s9, .val (.int i10), s11, s12, s13, s14, .val (.int (if if_icmp.holds .gt i7 (10 : Int32) = true then (0 : Int32) else 1)), .unset, .unset, .val (.double r208), .second] [(.double (FP.i2d i10)), (.double r208)])) _
  refine XS.ddivS X0.here hx rfl (hb hby at_252) rfl hn252 hv252 ?_
  show Steps p.tables e below (T0.setTop (mkF m 253 #[s0, s1, s2, s3, s4, .val (.int i5), .val (.int i6), .val (.int i7), s8, s9, .val (.int i10), s11, s12, s13, s14, .val (.int (if if_icmp.holds .gt i7 (10 : Int32) = true then (0 : Int32) else 1)), .unset, .unset, .val (.double r208), .second] [(.double r252)])) _
  refine XS.dstore X0.here hx rfl (hb hby at_253) rfl (l' := #[s0, s1, s2, s3, s4, .val (.int i5), .val (.int i6), .val (.int i7), s8, s9, .val (.int i10), s11, s12, s13, s14, .val (.int (if if_icmp.holds .gt i7 (10 : Int32) = true then (0 : Int32) else 1)), .val (.double r252), .second, .val (.double r208), .second]) rfl ?_
  show Steps p.tables e below (T0.setTop (mkF m 255 #[s0, s1, s2, s3, s4, .val (.int i5), .val (.int i6), .val (.int i7), s8, s9, .val (.int i10), s11, s12, s13, s14, .val (.int (if if_icmp.holds .gt i7 (10 : Int32) = true then (0 : Int32) else 1)), .val (.double r252), .second, .val (.double r208), .second] [])) _
  refine XS.goto X0.here hx rfl (pc0 := 255) (pc' := 397) rfl (hb hby at_255) (by decide) (by decide) ?_
  exact kt
set_option maxRecDepth 65536 in
set_option maxHeartbeats 40000000 in
theorem tl0_2 {p : Program} {l : Launch} {e : Env} {R : Room} {s : State} {m : MethodId} {args : Array Value} {below : List Frame} {meth : Method} {c : Code} {T0 : State} {locs : List Loc} {cells slots : Nat} {Z : State} {a0 : Array Value} {h0 : Heap} (s0 : Slot) (s1 : Slot) (s2 : Slot) (s3 : Slot) (s4 : Slot) (i5 : Int32) (i6 : Int32) (i7 : Int32) (i8 : Int32) (s9 : Slot) (i10 : Int32) (s11 : Slot) (s12 : Slot) (s13 : Slot) (s14 : Slot) (r208 : UInt64) (r225 : UInt64) (r226 : UInt64) (r252 : UInt64)
    (X0 : Stand p l e R s m args below meth c T0 locs cells slots) (hx : p.tables.exec = Jvm.exec) (hZ : Z.Warmed39 s.vm) (hw : ∀ d ∈ tables_1, d.before a0 Z = true) (hby : c.code = code) (hml : c.maxLocals = 20) (hown : s.vm.findClass "com/example/pesquisa/pesquisa/MeasureScorePinLaw" = some m.cls) (e0 : T0.heap = h0) (hc173 : (0 : Int32) < i6) (hc192 : i5 = (0 : Int32)) (hc201 : ¬ (i6 < (1 : Int32))) (hv208 : (FP.ddiv FP.dconst1 (FP.i2d i7)) = r208) (hn208 : Jvm.Free.Fl.NoNaN64 (FP.ddiv FP.dconst1 (FP.i2d i7))) (hc214 : ¬ (i6 < (2 : Int32))) (hv225 : (FP.ddiv (4611686018427387904 : UInt64) (FP.i2d i8)) = r225) (hn225 : Jvm.Free.Fl.NoNaN64 (FP.ddiv (4611686018427387904 : UInt64) (FP.i2d i8))) (hv226 : (FP.dadd r208 r225) = r226) (hn226 : Jvm.Free.Fl.NoNaN64 (FP.dadd r208 r225)) (hc232 : i6 < (3 : Int32)) (hv252 : (FP.ddiv r226 (FP.i2d i10)) = r252) (hn252 : Jvm.Free.Fl.NoNaN64 (FP.ddiv r226 (FP.i2d i10))) :
    ∃ (T' : State), Stand p l e R s m args below meth c T' locs cells slots ∧ T'.heap = h0 ∧
      ∀ target, Steps p.tables e below (T'.setTop (mkF m 397 #[s0, s1, s2, s3, s4, .val (.int i5), .val (.int i6), .val (.int i7), .val (.int i8), s9, .val (.int i10), s11, s12, s13, s14, .val (.int (if if_icmp.holds .gt i7 (10 : Int32) = true then (0 : Int32) else 1)), .val (.double r252), .second, .val (.double r226), .second] [])) target → Steps p.tables e below (T0.setTop (mkF m 171 #[s0, s1, s2, s3, s4, .val (.int i5), .val (.int i6), .val (.int i7), .val (.int i8), s9, .val (.int i10), s11, s12, s13, s14, .unset, .unset, .unset, .unset, .unset] [])) target := by

  refine ⟨T0, X0, e0, fun target kt => ?_⟩
  show Steps p.tables e below (T0.setTop (mkF m 171 #[s0, s1, s2, s3, s4, .val (.int i5), .val (.int i6), .val (.int i7), .val (.int i8), s9, .val (.int i10), s11, s12, s13, s14, .unset, .unset, .unset, .unset, .unset] [])) _
  refine XS.iload X0.here hx rfl (hb hby at_171) rfl ?_
  show Steps p.tables e below (T0.setTop (mkF m 173 #[s0, s1, s2, s3, s4, .val (.int i5), .val (.int i6), .val (.int i7), .val (.int i8), s9, .val (.int i10), s11, s12, s13, s14, .unset, .unset, .unset, .unset, .unset] [(.int i6)])) _
  refine XS.ifNo X0.here hx rfl (hb hby at_173) rfl ((if0 _ _).trans (tlt hc173).2.2.2) ?_
  show Steps p.tables e below (T0.setTop (mkF m 176 #[s0, s1, s2, s3, s4, .val (.int i5), .val (.int i6), .val (.int i7), .val (.int i8), s9, .val (.int i10), s11, s12, s13, s14, .unset, .unset, .unset, .unset, .unset] [])) _
  refine XS.iload X0.here hx rfl (hb hby at_176) rfl ?_
  show Steps p.tables e below (T0.setTop (mkF m 178 #[s0, s1, s2, s3, s4, .val (.int i5), .val (.int i6), .val (.int i7), .val (.int i8), s9, .val (.int i10), s11, s12, s13, s14, .unset, .unset, .unset, .unset, .unset] [(.int i7)])) _
  refine XS.bipush X0.here hx rfl (hb hby at_178) ?_
  show Steps p.tables e below (T0.setTop (mkF m 180 #[s0, s1, s2, s3, s4, .val (.int i5), .val (.int i6), .val (.int i7), .val (.int i8), s9, .val (.int i10), s11, s12, s13, s14, .unset, .unset, .unset, .unset, .unset] [(.int (10 : Int32)), (.int i7)])) _
  refine own_selI X0.here hx (hb hby at_180) (hb hby at_183) (hb hby at_184) (hb hby at_187) ?_
  show Steps p.tables e below (T0.setTop (mkF m 188 #[s0, s1, s2, s3, s4, .val (.int i5), .val (.int i6), .val (.int i7), .val (.int i8), s9, .val (.int i10), s11, s12, s13, s14, .unset, .unset, .unset, .unset, .unset] [(.int (if if_icmp.holds .gt i7 (10 : Int32) = true then (0 : Int32) else 1))])) _
  refine XS.istore X0.here hx rfl (hb hby at_188) rfl (l' := #[s0, s1, s2, s3, s4, .val (.int i5), .val (.int i6), .val (.int i7), .val (.int i8), s9, .val (.int i10), s11, s12, s13, s14, .val (.int (if if_icmp.holds .gt i7 (10 : Int32) = true then (0 : Int32) else 1)), .unset, .unset, .unset, .unset]) rfl ?_
  show Steps p.tables e below (T0.setTop (mkF m 190 #[s0, s1, s2, s3, s4, .val (.int i5), .val (.int i6), .val (.int i7), .val (.int i8), s9, .val (.int i10), s11, s12, s13, s14, .val (.int (if if_icmp.holds .gt i7 (10 : Int32) = true then (0 : Int32) else 1)), .unset, .unset, .unset, .unset] [])) _
  refine XS.iload X0.here hx rfl (hb hby at_190) rfl ?_
  show Steps p.tables e below (T0.setTop (mkF m 192 #[s0, s1, s2, s3, s4, .val (.int i5), .val (.int i6), .val (.int i7), .val (.int i8), s9, .val (.int i10), s11, s12, s13, s14, .val (.int (if if_icmp.holds .gt i7 (10 : Int32) = true then (0 : Int32) else 1)), .unset, .unset, .unset, .unset] [(.int i5)])) _
  refine XS.ifNo X0.here hx rfl (hb hby at_192) rfl ((if0 _ _).trans (teq hc192).2) ?_
  show Steps p.tables e below (T0.setTop (mkF m 195 #[s0, s1, s2, s3, s4, .val (.int i5), .val (.int i6), .val (.int i7), .val (.int i8), s9, .val (.int i10), s11, s12, s13, s14, .val (.int (if if_icmp.holds .gt i7 (10 : Int32) = true then (0 : Int32) else 1)), .unset, .unset, .unset, .unset] [])) _
  refine XS.dconst0 X0.here hx rfl (hb hby at_195) rfl ?_
  show Steps p.tables e below (T0.setTop (mkF m 196 #[s0, s1, s2, s3, s4, .val (.int i5), .val (.int i6), .val (.int i7), .val (.int i8), s9, .val (.int i10), s11, s12, s13, s14, .val (.int (if if_icmp.holds .gt i7 (10 : Int32) = true then (0 : Int32) else 1)), .unset, .unset, .unset, .unset] [(.double FP.dconst0)])) _
  refine XS.dstore X0.here hx rfl (hb hby at_196) rfl (l' := #[s0, s1, s2, s3, s4, .val (.int i5), .val (.int i6), .val (.int i7), .val (.int i8), s9, .val (.int i10), s11, s12, s13, s14, .val (.int (if if_icmp.holds .gt i7 (10 : Int32) = true then (0 : Int32) else 1)), .unset, .unset, .val (.double FP.dconst0), .second]) rfl ?_
  show Steps p.tables e below (T0.setTop (mkF m 198 #[s0, s1, s2, s3, s4, .val (.int i5), .val (.int i6), .val (.int i7), .val (.int i8), s9, .val (.int i10), s11, s12, s13, s14, .val (.int (if if_icmp.holds .gt i7 (10 : Int32) = true then (0 : Int32) else 1)), .unset, .unset, .val (.double FP.dconst0), .second] [])) _
  refine XS.iload X0.here hx rfl (hb hby at_198) rfl ?_
  show Steps p.tables e below (T0.setTop (mkF m 200 #[s0, s1, s2, s3, s4, .val (.int i5), .val (.int i6), .val (.int i7), .val (.int i8), s9, .val (.int i10), s11, s12, s13, s14, .val (.int (if if_icmp.holds .gt i7 (10 : Int32) = true then (0 : Int32) else 1)), .unset, .unset, .val (.double FP.dconst0), .second] [(.int i6)])) _
  refine XS.iconst X0.here hx rfl (hb hby at_200) ?_
  show Steps p.tables e below (T0.setTop (mkF m 201 #[s0, s1, s2, s3, s4, .val (.int i5), .val (.int i6), .val (.int i7), .val (.int i8), s9, .val (.int i10), s11, s12, s13, s14, .val (.int (if if_icmp.holds .gt i7 (10 : Int32) = true then (0 : Int32) else 1)), .unset, .unset, .val (.double FP.dconst0), .second] [(.int (1 : Int32)), (.int i6)])) _
  refine XS.icmpNo X0.here hx rfl (hb hby at_201) rfl (flt hc201).1 ?_
  show Steps p.tables e below (T0.setTop (mkF m 204 #[s0, s1, s2, s3, s4, .val (.int i5), .val (.int i6), .val (.int i7), .val (.int i8), s9, .val (.int i10), s11, s12, s13, s14, .val (.int (if if_icmp.holds .gt i7 (10 : Int32) = true then (0 : Int32) else 1)), .unset, .unset, .val (.double FP.dconst0), .second] [])) _
  refine XS.dconst1 X0.here hx rfl (hb hby at_204) rfl ?_
  show Steps p.tables e below (T0.setTop (mkF m 205 #[s0, s1, s2, s3, s4, .val (.int i5), .val (.int i6), .val (.int i7), .val (.int i8), s9, .val (.int i10), s11, s12, s13, s14, .val (.int (if if_icmp.holds .gt i7 (10 : Int32) = true then (0 : Int32) else 1)), .unset, .unset, .val (.double FP.dconst0), .second] [(.double FP.dconst1)])) _
  refine XS.iload X0.here hx rfl (hb hby at_205) rfl ?_
  show Steps p.tables e below (T0.setTop (mkF m 207 #[s0, s1, s2, s3, s4, .val (.int i5), .val (.int i6), .val (.int i7), .val (.int i8), s9, .val (.int i10), s11, s12, s13, s14, .val (.int (if if_icmp.holds .gt i7 (10 : Int32) = true then (0 : Int32) else 1)), .unset, .unset, .val (.double FP.dconst0), .second] [(.int i7), (.double FP.dconst1)])) _
  refine XS.i2dS X0.here hx rfl (hb hby at_207) rfl rfl ?_
  show Steps p.tables e below (T0.setTop (mkF m 208 #[s0, s1, s2, s3, s4, .val (.int i5), .val (.int i6), .val (.int i7), .val (.int i8), s9, .val (.int i10), s11, s12, s13, s14, .val (.int (if if_icmp.holds .gt i7 (10 : Int32) = true then (0 : Int32) else 1)), .unset, .unset, .val (.double FP.dconst0), .second] [(.double (FP.i2d i7)), (.double FP.dconst1)])) _
  refine XS.ddivS X0.here hx rfl (hb hby at_208) rfl hn208 hv208 ?_
  show Steps p.tables e below (T0.setTop (mkF m 209 #[s0, s1, s2, s3, s4, .val (.int i5), .val (.int i6), .val (.int i7), .val (.int i8), s9, .val (.int i10), s11, s12, s13, s14, .val (.int (if if_icmp.holds .gt i7 (10 : Int32) = true then (0 : Int32) else 1)), .unset, .unset, .val (.double FP.dconst0), .second] [(.double r208)])) _
  refine XS.dstore X0.here hx rfl (hb hby at_209) rfl (l' := #[s0, s1, s2, s3, s4, .val (.int i5), .val (.int i6), .val (.int i7), .val (.int i8), s9, .val (.int i10), s11, s12, s13, s14, .val (.int (if if_icmp.holds .gt i7 (10 : Int32) = true then (0 : Int32) else 1)), .unset, .unset, .val (.double r208), .second]) rfl ?_
  show Steps p.tables e below (T0.setTop (mkF m 211 #[s0, s1, s2, s3, s4, .val (.int i5), .val (.int i6), .val (.int i7), .val (.int i8), s9, .val (.int i10), s11, s12, s13, s14, .val (.int (if if_icmp.holds .gt i7 (10 : Int32) = true then (0 : Int32) else 1)), .unset, .unset, .val (.double r208), .second] [])) _
  refine XS.iload X0.here hx rfl (hb hby at_211) rfl ?_
  show Steps p.tables e below (T0.setTop (mkF m 213 #[s0, s1, s2, s3, s4, .val (.int i5), .val (.int i6), .val (.int i7), .val (.int i8), s9, .val (.int i10), s11, s12, s13, s14, .val (.int (if if_icmp.holds .gt i7 (10 : Int32) = true then (0 : Int32) else 1)), .unset, .unset, .val (.double r208), .second] [(.int i6)])) _
  refine XS.iconst X0.here hx rfl (hb hby at_213) ?_
  show Steps p.tables e below (T0.setTop (mkF m 214 #[s0, s1, s2, s3, s4, .val (.int i5), .val (.int i6), .val (.int i7), .val (.int i8), s9, .val (.int i10), s11, s12, s13, s14, .val (.int (if if_icmp.holds .gt i7 (10 : Int32) = true then (0 : Int32) else 1)), .unset, .unset, .val (.double r208), .second] [(.int (2 : Int32)), (.int i6)])) _
  refine XS.icmpNo X0.here hx rfl (hb hby at_214) rfl (flt hc214).1 ?_
  show Steps p.tables e below (T0.setTop (mkF m 217 #[s0, s1, s2, s3, s4, .val (.int i5), .val (.int i6), .val (.int i7), .val (.int i8), s9, .val (.int i10), s11, s12, s13, s14, .val (.int (if if_icmp.holds .gt i7 (10 : Int32) = true then (0 : Int32) else 1)), .unset, .unset, .val (.double r208), .second] [])) _
  refine XS.dload X0.here hx rfl (hb hby at_217) rfl ?_
  show Steps p.tables e below (T0.setTop (mkF m 219 #[s0, s1, s2, s3, s4, .val (.int i5), .val (.int i6), .val (.int i7), .val (.int i8), s9, .val (.int i10), s11, s12, s13, s14, .val (.int (if if_icmp.holds .gt i7 (10 : Int32) = true then (0 : Int32) else 1)), .unset, .unset, .val (.double r208), .second] [(.double r208)])) _
  refine X0.ldc2DoubleC hx hown (mvT hZ (hw _ (List.mem_of_getElem? (i := 32) rfl))) (g := (mkF m 219 #[s0, s1, s2, s3, s4, .val (.int i5), .val (.int i6), .val (.int i7), .val (.int i8), s9, .val (.int i10), s11, s12, s13, s14, .val (.int (if if_icmp.holds .gt i7 (10 : Int32) = true then (0 : Int32) else 1)), .unset, .unset, .val (.double r208), .second] [(.double r208)])) rfl (hb hby at_219) _ ?_
  show Steps p.tables e below (T0.setTop (mkF m 222 #[s0, s1, s2, s3, s4, .val (.int i5), .val (.int i6), .val (.int i7), .val (.int i8), s9, .val (.int i10), s11, s12, s13, s14, .val (.int (if if_icmp.holds .gt i7 (10 : Int32) = true then (0 : Int32) else 1)), .unset, .unset, .val (.double r208), .second] [(.double (4611686018427387904 : UInt64)), (.double r208)])) _
  refine XS.iload X0.here hx rfl (hb hby at_222) rfl ?_
  show Steps p.tables e below (T0.setTop (mkF m 224 #[s0, s1, s2, s3, s4, .val (.int i5), .val (.int i6), .val (.int i7), .val (.int i8), s9, .val (.int i10), s11, s12, s13, s14, .val (.int (if if_icmp.holds .gt i7 (10 : Int32) = true then (0 : Int32) else 1)), .unset, .unset, .val (.double r208), .second] [(.int i8), (.double (4611686018427387904 : UInt64)), (.double r208)])) _
  refine XS.i2dS X0.here hx rfl (hb hby at_224) rfl rfl ?_
  show Steps p.tables e below (T0.setTop (mkF m 225 #[s0, s1, s2, s3, s4, .val (.int i5), .val (.int i6), .val (.int i7), .val (.int i8), s9, .val (.int i10), s11, s12, s13, s14, .val (.int (if if_icmp.holds .gt i7 (10 : Int32) = true then (0 : Int32) else 1)), .unset, .unset, .val (.double r208), .second] [(.double (FP.i2d i8)), (.double (4611686018427387904 : UInt64)), (.double r208)])) _
  refine XS.ddivS X0.here hx rfl (hb hby at_225) rfl hn225 hv225 ?_
  show Steps p.tables e below (T0.setTop (mkF m 226 #[s0, s1, s2, s3, s4, .val (.int i5), .val (.int i6), .val (.int i7), .val (.int i8), s9, .val (.int i10), s11, s12, s13, s14, .val (.int (if if_icmp.holds .gt i7 (10 : Int32) = true then (0 : Int32) else 1)), .unset, .unset, .val (.double r208), .second] [(.double r225), (.double r208)])) _
  refine XS.daddS X0.here hx rfl (hb hby at_226) rfl hn226 hv226 ?_
  show Steps p.tables e below (T0.setTop (mkF m 227 #[s0, s1, s2, s3, s4, .val (.int i5), .val (.int i6), .val (.int i7), .val (.int i8), s9, .val (.int i10), s11, s12, s13, s14, .val (.int (if if_icmp.holds .gt i7 (10 : Int32) = true then (0 : Int32) else 1)), .unset, .unset, .val (.double r208), .second] [(.double r226)])) _
  refine XS.dstore X0.here hx rfl (hb hby at_227) rfl (l' := #[s0, s1, s2, s3, s4, .val (.int i5), .val (.int i6), .val (.int i7), .val (.int i8), s9, .val (.int i10), s11, s12, s13, s14, .val (.int (if if_icmp.holds .gt i7 (10 : Int32) = true then (0 : Int32) else 1)), .unset, .unset, .val (.double r226), .second]) rfl ?_
  show Steps p.tables e below (T0.setTop (mkF m 229 #[s0, s1, s2, s3, s4, .val (.int i5), .val (.int i6), .val (.int i7), .val (.int i8), s9, .val (.int i10), s11, s12, s13, s14, .val (.int (if if_icmp.holds .gt i7 (10 : Int32) = true then (0 : Int32) else 1)), .unset, .unset, .val (.double r226), .second] [])) _
  refine XS.iload X0.here hx rfl (hb hby at_229) rfl ?_
  show Steps p.tables e below (T0.setTop (mkF m 231 #[s0, s1, s2, s3, s4, .val (.int i5), .val (.int i6), .val (.int i7), .val (.int i8), s9, .val (.int i10), s11, s12, s13, s14, .val (.int (if if_icmp.holds .gt i7 (10 : Int32) = true then (0 : Int32) else 1)), .unset, .unset, .val (.double r226), .second] [(.int i6)])) _
  refine XS.iconst X0.here hx rfl (hb hby at_231) ?_
  show Steps p.tables e below (T0.setTop (mkF m 232 #[s0, s1, s2, s3, s4, .val (.int i5), .val (.int i6), .val (.int i7), .val (.int i8), s9, .val (.int i10), s11, s12, s13, s14, .val (.int (if if_icmp.holds .gt i7 (10 : Int32) = true then (0 : Int32) else 1)), .unset, .unset, .val (.double r226), .second] [(.int (3 : Int32)), (.int i6)])) _
  refine XS.icmpYes X0.here hx rfl (pc0 := 232) (pc' := 247) rfl (hb hby at_232) rfl (tlt hc232).1 (by decide) (by decide) ?_
  show Steps p.tables e below (T0.setTop (mkF m 247 #[s0, s1, s2, s3, s4, .val (.int i5), .val (.int i6), .val (.int i7), .val (.int i8), s9, .val (.int i10), s11, s12, s13, s14, .val (.int (if if_icmp.holds .gt i7 (10 : Int32) = true then (0 : Int32) else 1)), .unset, .unset, .val (.double r226), .second] [])) _
  refine XS.dload X0.here hx rfl (hb hby at_247) rfl ?_
  show Steps p.tables e below (T0.setTop (mkF m 249 #[s0, s1, s2, s3, s4, .val (.int i5), .val (.int i6), .val (.int i7), .val (.int i8), s9, .val (.int i10), s11, s12, s13, s14, .val (.int (if if_icmp.holds .gt i7 (10 : Int32) = true then (0 : Int32) else 1)), .unset, .unset, .val (.double r226), .second] [(.double r226)])) _
  refine XS.iload X0.here hx rfl (hb hby at_249) rfl ?_
  show Steps p.tables e below (T0.setTop (mkF m 251 #[s0, s1, s2, s3, s4, .val (.int i5), .val (.int i6), .val (.int i7), .val (.int i8), s9, .val (.int i10), s11, s12, s13, s14, .val (.int (if if_icmp.holds .gt i7 (10 : Int32) = true then (0 : Int32) else 1)), .unset, .unset, .val (.double r226), .second] [(.int i10), (.double r226)])) _
  refine XS.i2dS X0.here hx rfl (hb hby at_251) rfl rfl ?_
  show Steps p.tables e below (T0.setTop (mkF m 252 #[s0, s1, s2, s3, s4, .val (.int i5), .val (.int i6), .val (.int i7), .val (.int i8), s9, .val (.int i10), s11, s12, s13, s14, .val (.int (if if_icmp.holds .gt i7 (10 : Int32) = true then (0 : Int32) else 1)), .unset, .unset, .val (.double r226), .second] [(.double (FP.i2d i10)), (.double r226)])) _
  refine XS.ddivS X0.here hx rfl (hb hby at_252) rfl hn252 hv252 ?_
  show Steps p.tables e below (T0.setTop (mkF m 253 #[s0, s1, s2, s3, s4, .val (.int i5), .val (.int i6), .val (.int i7), .val (.int i8), s9, .val (.int i10), s11, s12, s13, s14, .val (.int (if if_icmp.holds .gt i7 (10 : Int32) = true then (0 : Int32) else 1)), .unset, .unset, .val (.double r226), .second] [(.double r252)])) _
  refine XS.dstore X0.here hx rfl (hb hby at_253) rfl (l' := #[s0, s1, s2, s3, s4, .val (.int i5), .val (.int i6), .val (.int i7), .val (.int i8), s9, .val (.int i10), s11, s12, s13, s14, .val (.int (if if_icmp.holds .gt i7 (10 : Int32) = true then (0 : Int32) else 1)), .val (.double r252), .second, .val (.double r226), .second]) rfl ?_
  show Steps p.tables e below (T0.setTop (mkF m 255 #[s0, s1, s2, s3, s4, .val (.int i5), .val (.int i6), .val (.int i7), .val (.int i8), s9, .val (.int i10), s11, s12, s13, s14, .val (.int (if if_icmp.holds .gt i7 (10 : Int32) = true then (0 : Int32) else 1)), .val (.double r252), .second, .val (.double r226), .second] [])) _
  refine XS.goto X0.here hx rfl (pc0 := 255) (pc' := 397) rfl (hb hby at_255) (by decide) (by decide) ?_
  exact kt
set_option maxRecDepth 65536 in
set_option maxHeartbeats 40000000 in
theorem tl0_3 {p : Program} {l : Launch} {e : Env} {R : Room} {s : State} {m : MethodId} {args : Array Value} {below : List Frame} {meth : Method} {c : Code} {T0 : State} {locs : List Loc} {cells slots : Nat} {Z : State} {a0 : Array Value} {h0 : Heap} (s0 : Slot) (s1 : Slot) (s2 : Slot) (s3 : Slot) (s4 : Slot) (i5 : Int32) (i6 : Int32) (i7 : Int32) (i8 : Int32) (i9 : Int32) (i10 : Int32) (s11 : Slot) (s12 : Slot) (s13 : Slot) (s14 : Slot) (r208 : UInt64) (r225 : UInt64) (r226 : UInt64) (r243 : UInt64) (r244 : UInt64) (r252 : UInt64)
    (X0 : Stand p l e R s m args below meth c T0 locs cells slots) (hx : p.tables.exec = Jvm.exec) (hZ : Z.Warmed39 s.vm) (hw : ∀ d ∈ tables_1, d.before a0 Z = true) (hby : c.code = code) (hml : c.maxLocals = 20) (hown : s.vm.findClass "com/example/pesquisa/pesquisa/MeasureScorePinLaw" = some m.cls) (e0 : T0.heap = h0) (hc173 : (0 : Int32) < i6) (hc192 : i5 = (0 : Int32)) (hc201 : ¬ (i6 < (1 : Int32))) (hv208 : (FP.ddiv FP.dconst1 (FP.i2d i7)) = r208) (hn208 : Jvm.Free.Fl.NoNaN64 (FP.ddiv FP.dconst1 (FP.i2d i7))) (hc214 : ¬ (i6 < (2 : Int32))) (hv225 : (FP.ddiv (4611686018427387904 : UInt64) (FP.i2d i8)) = r225) (hn225 : Jvm.Free.Fl.NoNaN64 (FP.ddiv (4611686018427387904 : UInt64) (FP.i2d i8))) (hv226 : (FP.dadd r208 r225) = r226) (hn226 : Jvm.Free.Fl.NoNaN64 (FP.dadd r208 r225)) (hc232 : ¬ (i6 < (3 : Int32))) (hv243 : (FP.ddiv (4613937818241073152 : UInt64) (FP.i2d i9)) = r243) (hn243 : Jvm.Free.Fl.NoNaN64 (FP.ddiv (4613937818241073152 : UInt64) (FP.i2d i9))) (hv244 : (FP.dadd r226 r243) = r244) (hn244 : Jvm.Free.Fl.NoNaN64 (FP.dadd r226 r243)) (hv252 : (FP.ddiv r244 (FP.i2d i10)) = r252) (hn252 : Jvm.Free.Fl.NoNaN64 (FP.ddiv r244 (FP.i2d i10))) :
    ∃ (T' : State), Stand p l e R s m args below meth c T' locs cells slots ∧ T'.heap = h0 ∧
      ∀ target, Steps p.tables e below (T'.setTop (mkF m 397 #[s0, s1, s2, s3, s4, .val (.int i5), .val (.int i6), .val (.int i7), .val (.int i8), .val (.int i9), .val (.int i10), s11, s12, s13, s14, .val (.int (if if_icmp.holds .gt i7 (10 : Int32) = true then (0 : Int32) else 1)), .val (.double r252), .second, .val (.double r244), .second] [])) target → Steps p.tables e below (T0.setTop (mkF m 171 #[s0, s1, s2, s3, s4, .val (.int i5), .val (.int i6), .val (.int i7), .val (.int i8), .val (.int i9), .val (.int i10), s11, s12, s13, s14, .unset, .unset, .unset, .unset, .unset] [])) target := by

  refine ⟨T0, X0, e0, fun target kt => ?_⟩
  show Steps p.tables e below (T0.setTop (mkF m 171 #[s0, s1, s2, s3, s4, .val (.int i5), .val (.int i6), .val (.int i7), .val (.int i8), .val (.int i9), .val (.int i10), s11, s12, s13, s14, .unset, .unset, .unset, .unset, .unset] [])) _
  refine XS.iload X0.here hx rfl (hb hby at_171) rfl ?_
  show Steps p.tables e below (T0.setTop (mkF m 173 #[s0, s1, s2, s3, s4, .val (.int i5), .val (.int i6), .val (.int i7), .val (.int i8), .val (.int i9), .val (.int i10), s11, s12, s13, s14, .unset, .unset, .unset, .unset, .unset] [(.int i6)])) _
  refine XS.ifNo X0.here hx rfl (hb hby at_173) rfl ((if0 _ _).trans (tlt hc173).2.2.2) ?_
  show Steps p.tables e below (T0.setTop (mkF m 176 #[s0, s1, s2, s3, s4, .val (.int i5), .val (.int i6), .val (.int i7), .val (.int i8), .val (.int i9), .val (.int i10), s11, s12, s13, s14, .unset, .unset, .unset, .unset, .unset] [])) _
  refine XS.iload X0.here hx rfl (hb hby at_176) rfl ?_
  show Steps p.tables e below (T0.setTop (mkF m 178 #[s0, s1, s2, s3, s4, .val (.int i5), .val (.int i6), .val (.int i7), .val (.int i8), .val (.int i9), .val (.int i10), s11, s12, s13, s14, .unset, .unset, .unset, .unset, .unset] [(.int i7)])) _
  refine XS.bipush X0.here hx rfl (hb hby at_178) ?_
  show Steps p.tables e below (T0.setTop (mkF m 180 #[s0, s1, s2, s3, s4, .val (.int i5), .val (.int i6), .val (.int i7), .val (.int i8), .val (.int i9), .val (.int i10), s11, s12, s13, s14, .unset, .unset, .unset, .unset, .unset] [(.int (10 : Int32)), (.int i7)])) _
  refine own_selI X0.here hx (hb hby at_180) (hb hby at_183) (hb hby at_184) (hb hby at_187) ?_
  show Steps p.tables e below (T0.setTop (mkF m 188 #[s0, s1, s2, s3, s4, .val (.int i5), .val (.int i6), .val (.int i7), .val (.int i8), .val (.int i9), .val (.int i10), s11, s12, s13, s14, .unset, .unset, .unset, .unset, .unset] [(.int (if if_icmp.holds .gt i7 (10 : Int32) = true then (0 : Int32) else 1))])) _
  refine XS.istore X0.here hx rfl (hb hby at_188) rfl (l' := #[s0, s1, s2, s3, s4, .val (.int i5), .val (.int i6), .val (.int i7), .val (.int i8), .val (.int i9), .val (.int i10), s11, s12, s13, s14, .val (.int (if if_icmp.holds .gt i7 (10 : Int32) = true then (0 : Int32) else 1)), .unset, .unset, .unset, .unset]) rfl ?_
  show Steps p.tables e below (T0.setTop (mkF m 190 #[s0, s1, s2, s3, s4, .val (.int i5), .val (.int i6), .val (.int i7), .val (.int i8), .val (.int i9), .val (.int i10), s11, s12, s13, s14, .val (.int (if if_icmp.holds .gt i7 (10 : Int32) = true then (0 : Int32) else 1)), .unset, .unset, .unset, .unset] [])) _
  refine XS.iload X0.here hx rfl (hb hby at_190) rfl ?_
  show Steps p.tables e below (T0.setTop (mkF m 192 #[s0, s1, s2, s3, s4, .val (.int i5), .val (.int i6), .val (.int i7), .val (.int i8), .val (.int i9), .val (.int i10), s11, s12, s13, s14, .val (.int (if if_icmp.holds .gt i7 (10 : Int32) = true then (0 : Int32) else 1)), .unset, .unset, .unset, .unset] [(.int i5)])) _
  refine XS.ifNo X0.here hx rfl (hb hby at_192) rfl ((if0 _ _).trans (teq hc192).2) ?_
  show Steps p.tables e below (T0.setTop (mkF m 195 #[s0, s1, s2, s3, s4, .val (.int i5), .val (.int i6), .val (.int i7), .val (.int i8), .val (.int i9), .val (.int i10), s11, s12, s13, s14, .val (.int (if if_icmp.holds .gt i7 (10 : Int32) = true then (0 : Int32) else 1)), .unset, .unset, .unset, .unset] [])) _
  refine XS.dconst0 X0.here hx rfl (hb hby at_195) rfl ?_
  show Steps p.tables e below (T0.setTop (mkF m 196 #[s0, s1, s2, s3, s4, .val (.int i5), .val (.int i6), .val (.int i7), .val (.int i8), .val (.int i9), .val (.int i10), s11, s12, s13, s14, .val (.int (if if_icmp.holds .gt i7 (10 : Int32) = true then (0 : Int32) else 1)), .unset, .unset, .unset, .unset] [(.double FP.dconst0)])) _
  refine XS.dstore X0.here hx rfl (hb hby at_196) rfl (l' := #[s0, s1, s2, s3, s4, .val (.int i5), .val (.int i6), .val (.int i7), .val (.int i8), .val (.int i9), .val (.int i10), s11, s12, s13, s14, .val (.int (if if_icmp.holds .gt i7 (10 : Int32) = true then (0 : Int32) else 1)), .unset, .unset, .val (.double FP.dconst0), .second]) rfl ?_
  show Steps p.tables e below (T0.setTop (mkF m 198 #[s0, s1, s2, s3, s4, .val (.int i5), .val (.int i6), .val (.int i7), .val (.int i8), .val (.int i9), .val (.int i10), s11, s12, s13, s14, .val (.int (if if_icmp.holds .gt i7 (10 : Int32) = true then (0 : Int32) else 1)), .unset, .unset, .val (.double FP.dconst0), .second] [])) _
  refine XS.iload X0.here hx rfl (hb hby at_198) rfl ?_
  show Steps p.tables e below (T0.setTop (mkF m 200 #[s0, s1, s2, s3, s4, .val (.int i5), .val (.int i6), .val (.int i7), .val (.int i8), .val (.int i9), .val (.int i10), s11, s12, s13, s14, .val (.int (if if_icmp.holds .gt i7 (10 : Int32) = true then (0 : Int32) else 1)), .unset, .unset, .val (.double FP.dconst0), .second] [(.int i6)])) _
  refine XS.iconst X0.here hx rfl (hb hby at_200) ?_
  show Steps p.tables e below (T0.setTop (mkF m 201 #[s0, s1, s2, s3, s4, .val (.int i5), .val (.int i6), .val (.int i7), .val (.int i8), .val (.int i9), .val (.int i10), s11, s12, s13, s14, .val (.int (if if_icmp.holds .gt i7 (10 : Int32) = true then (0 : Int32) else 1)), .unset, .unset, .val (.double FP.dconst0), .second] [(.int (1 : Int32)), (.int i6)])) _
  refine XS.icmpNo X0.here hx rfl (hb hby at_201) rfl (flt hc201).1 ?_
  show Steps p.tables e below (T0.setTop (mkF m 204 #[s0, s1, s2, s3, s4, .val (.int i5), .val (.int i6), .val (.int i7), .val (.int i8), .val (.int i9), .val (.int i10), s11, s12, s13, s14, .val (.int (if if_icmp.holds .gt i7 (10 : Int32) = true then (0 : Int32) else 1)), .unset, .unset, .val (.double FP.dconst0), .second] [])) _
  refine XS.dconst1 X0.here hx rfl (hb hby at_204) rfl ?_
  show Steps p.tables e below (T0.setTop (mkF m 205 #[s0, s1, s2, s3, s4, .val (.int i5), .val (.int i6), .val (.int i7), .val (.int i8), .val (.int i9), .val (.int i10), s11, s12, s13, s14, .val (.int (if if_icmp.holds .gt i7 (10 : Int32) = true then (0 : Int32) else 1)), .unset, .unset, .val (.double FP.dconst0), .second] [(.double FP.dconst1)])) _
  refine XS.iload X0.here hx rfl (hb hby at_205) rfl ?_
  show Steps p.tables e below (T0.setTop (mkF m 207 #[s0, s1, s2, s3, s4, .val (.int i5), .val (.int i6), .val (.int i7), .val (.int i8), .val (.int i9), .val (.int i10), s11, s12, s13, s14, .val (.int (if if_icmp.holds .gt i7 (10 : Int32) = true then (0 : Int32) else 1)), .unset, .unset, .val (.double FP.dconst0), .second] [(.int i7), (.double FP.dconst1)])) _
  refine XS.i2dS X0.here hx rfl (hb hby at_207) rfl rfl ?_
  show Steps p.tables e below (T0.setTop (mkF m 208 #[s0, s1, s2, s3, s4, .val (.int i5), .val (.int i6), .val (.int i7), .val (.int i8), .val (.int i9), .val (.int i10), s11, s12, s13, s14, .val (.int (if if_icmp.holds .gt i7 (10 : Int32) = true then (0 : Int32) else 1)), .unset, .unset, .val (.double FP.dconst0), .second] [(.double (FP.i2d i7)), (.double FP.dconst1)])) _
  refine XS.ddivS X0.here hx rfl (hb hby at_208) rfl hn208 hv208 ?_
  show Steps p.tables e below (T0.setTop (mkF m 209 #[s0, s1, s2, s3, s4, .val (.int i5), .val (.int i6), .val (.int i7), .val (.int i8), .val (.int i9), .val (.int i10), s11, s12, s13, s14, .val (.int (if if_icmp.holds .gt i7 (10 : Int32) = true then (0 : Int32) else 1)), .unset, .unset, .val (.double FP.dconst0), .second] [(.double r208)])) _
  refine XS.dstore X0.here hx rfl (hb hby at_209) rfl (l' := #[s0, s1, s2, s3, s4, .val (.int i5), .val (.int i6), .val (.int i7), .val (.int i8), .val (.int i9), .val (.int i10), s11, s12, s13, s14, .val (.int (if if_icmp.holds .gt i7 (10 : Int32) = true then (0 : Int32) else 1)), .unset, .unset, .val (.double r208), .second]) rfl ?_
  show Steps p.tables e below (T0.setTop (mkF m 211 #[s0, s1, s2, s3, s4, .val (.int i5), .val (.int i6), .val (.int i7), .val (.int i8), .val (.int i9), .val (.int i10), s11, s12, s13, s14, .val (.int (if if_icmp.holds .gt i7 (10 : Int32) = true then (0 : Int32) else 1)), .unset, .unset, .val (.double r208), .second] [])) _
  refine XS.iload X0.here hx rfl (hb hby at_211) rfl ?_
  show Steps p.tables e below (T0.setTop (mkF m 213 #[s0, s1, s2, s3, s4, .val (.int i5), .val (.int i6), .val (.int i7), .val (.int i8), .val (.int i9), .val (.int i10), s11, s12, s13, s14, .val (.int (if if_icmp.holds .gt i7 (10 : Int32) = true then (0 : Int32) else 1)), .unset, .unset, .val (.double r208), .second] [(.int i6)])) _
  refine XS.iconst X0.here hx rfl (hb hby at_213) ?_
  show Steps p.tables e below (T0.setTop (mkF m 214 #[s0, s1, s2, s3, s4, .val (.int i5), .val (.int i6), .val (.int i7), .val (.int i8), .val (.int i9), .val (.int i10), s11, s12, s13, s14, .val (.int (if if_icmp.holds .gt i7 (10 : Int32) = true then (0 : Int32) else 1)), .unset, .unset, .val (.double r208), .second] [(.int (2 : Int32)), (.int i6)])) _
  refine XS.icmpNo X0.here hx rfl (hb hby at_214) rfl (flt hc214).1 ?_
  show Steps p.tables e below (T0.setTop (mkF m 217 #[s0, s1, s2, s3, s4, .val (.int i5), .val (.int i6), .val (.int i7), .val (.int i8), .val (.int i9), .val (.int i10), s11, s12, s13, s14, .val (.int (if if_icmp.holds .gt i7 (10 : Int32) = true then (0 : Int32) else 1)), .unset, .unset, .val (.double r208), .second] [])) _
  refine XS.dload X0.here hx rfl (hb hby at_217) rfl ?_
  show Steps p.tables e below (T0.setTop (mkF m 219 #[s0, s1, s2, s3, s4, .val (.int i5), .val (.int i6), .val (.int i7), .val (.int i8), .val (.int i9), .val (.int i10), s11, s12, s13, s14, .val (.int (if if_icmp.holds .gt i7 (10 : Int32) = true then (0 : Int32) else 1)), .unset, .unset, .val (.double r208), .second] [(.double r208)])) _
  refine X0.ldc2DoubleC hx hown (mvT hZ (hw _ (List.mem_of_getElem? (i := 32) rfl))) (g := (mkF m 219 #[s0, s1, s2, s3, s4, .val (.int i5), .val (.int i6), .val (.int i7), .val (.int i8), .val (.int i9), .val (.int i10), s11, s12, s13, s14, .val (.int (if if_icmp.holds .gt i7 (10 : Int32) = true then (0 : Int32) else 1)), .unset, .unset, .val (.double r208), .second] [(.double r208)])) rfl (hb hby at_219) _ ?_
  show Steps p.tables e below (T0.setTop (mkF m 222 #[s0, s1, s2, s3, s4, .val (.int i5), .val (.int i6), .val (.int i7), .val (.int i8), .val (.int i9), .val (.int i10), s11, s12, s13, s14, .val (.int (if if_icmp.holds .gt i7 (10 : Int32) = true then (0 : Int32) else 1)), .unset, .unset, .val (.double r208), .second] [(.double (4611686018427387904 : UInt64)), (.double r208)])) _
  refine XS.iload X0.here hx rfl (hb hby at_222) rfl ?_
  show Steps p.tables e below (T0.setTop (mkF m 224 #[s0, s1, s2, s3, s4, .val (.int i5), .val (.int i6), .val (.int i7), .val (.int i8), .val (.int i9), .val (.int i10), s11, s12, s13, s14, .val (.int (if if_icmp.holds .gt i7 (10 : Int32) = true then (0 : Int32) else 1)), .unset, .unset, .val (.double r208), .second] [(.int i8), (.double (4611686018427387904 : UInt64)), (.double r208)])) _
  refine XS.i2dS X0.here hx rfl (hb hby at_224) rfl rfl ?_
  show Steps p.tables e below (T0.setTop (mkF m 225 #[s0, s1, s2, s3, s4, .val (.int i5), .val (.int i6), .val (.int i7), .val (.int i8), .val (.int i9), .val (.int i10), s11, s12, s13, s14, .val (.int (if if_icmp.holds .gt i7 (10 : Int32) = true then (0 : Int32) else 1)), .unset, .unset, .val (.double r208), .second] [(.double (FP.i2d i8)), (.double (4611686018427387904 : UInt64)), (.double r208)])) _
  refine XS.ddivS X0.here hx rfl (hb hby at_225) rfl hn225 hv225 ?_
  show Steps p.tables e below (T0.setTop (mkF m 226 #[s0, s1, s2, s3, s4, .val (.int i5), .val (.int i6), .val (.int i7), .val (.int i8), .val (.int i9), .val (.int i10), s11, s12, s13, s14, .val (.int (if if_icmp.holds .gt i7 (10 : Int32) = true then (0 : Int32) else 1)), .unset, .unset, .val (.double r208), .second] [(.double r225), (.double r208)])) _
  refine XS.daddS X0.here hx rfl (hb hby at_226) rfl hn226 hv226 ?_
  show Steps p.tables e below (T0.setTop (mkF m 227 #[s0, s1, s2, s3, s4, .val (.int i5), .val (.int i6), .val (.int i7), .val (.int i8), .val (.int i9), .val (.int i10), s11, s12, s13, s14, .val (.int (if if_icmp.holds .gt i7 (10 : Int32) = true then (0 : Int32) else 1)), .unset, .unset, .val (.double r208), .second] [(.double r226)])) _
  refine XS.dstore X0.here hx rfl (hb hby at_227) rfl (l' := #[s0, s1, s2, s3, s4, .val (.int i5), .val (.int i6), .val (.int i7), .val (.int i8), .val (.int i9), .val (.int i10), s11, s12, s13, s14, .val (.int (if if_icmp.holds .gt i7 (10 : Int32) = true then (0 : Int32) else 1)), .unset, .unset, .val (.double r226), .second]) rfl ?_
  show Steps p.tables e below (T0.setTop (mkF m 229 #[s0, s1, s2, s3, s4, .val (.int i5), .val (.int i6), .val (.int i7), .val (.int i8), .val (.int i9), .val (.int i10), s11, s12, s13, s14, .val (.int (if if_icmp.holds .gt i7 (10 : Int32) = true then (0 : Int32) else 1)), .unset, .unset, .val (.double r226), .second] [])) _
  refine XS.iload X0.here hx rfl (hb hby at_229) rfl ?_
  show Steps p.tables e below (T0.setTop (mkF m 231 #[s0, s1, s2, s3, s4, .val (.int i5), .val (.int i6), .val (.int i7), .val (.int i8), .val (.int i9), .val (.int i10), s11, s12, s13, s14, .val (.int (if if_icmp.holds .gt i7 (10 : Int32) = true then (0 : Int32) else 1)), .unset, .unset, .val (.double r226), .second] [(.int i6)])) _
  refine XS.iconst X0.here hx rfl (hb hby at_231) ?_
  show Steps p.tables e below (T0.setTop (mkF m 232 #[s0, s1, s2, s3, s4, .val (.int i5), .val (.int i6), .val (.int i7), .val (.int i8), .val (.int i9), .val (.int i10), s11, s12, s13, s14, .val (.int (if if_icmp.holds .gt i7 (10 : Int32) = true then (0 : Int32) else 1)), .unset, .unset, .val (.double r226), .second] [(.int (3 : Int32)), (.int i6)])) _
  refine XS.icmpNo X0.here hx rfl (hb hby at_232) rfl (flt hc232).1 ?_
  show Steps p.tables e below (T0.setTop (mkF m 235 #[s0, s1, s2, s3, s4, .val (.int i5), .val (.int i6), .val (.int i7), .val (.int i8), .val (.int i9), .val (.int i10), s11, s12, s13, s14, .val (.int (if if_icmp.holds .gt i7 (10 : Int32) = true then (0 : Int32) else 1)), .unset, .unset, .val (.double r226), .second] [])) _
  refine XS.dload X0.here hx rfl (hb hby at_235) rfl ?_
  show Steps p.tables e below (T0.setTop (mkF m 237 #[s0, s1, s2, s3, s4, .val (.int i5), .val (.int i6), .val (.int i7), .val (.int i8), .val (.int i9), .val (.int i10), s11, s12, s13, s14, .val (.int (if if_icmp.holds .gt i7 (10 : Int32) = true then (0 : Int32) else 1)), .unset, .unset, .val (.double r226), .second] [(.double r226)])) _
  refine X0.ldc2DoubleC hx hown (mvT hZ (hw _ (List.mem_of_getElem? (i := 33) rfl))) (g := (mkF m 237 #[s0, s1, s2, s3, s4, .val (.int i5), .val (.int i6), .val (.int i7), .val (.int i8), .val (.int i9), .val (.int i10), s11, s12, s13, s14, .val (.int (if if_icmp.holds .gt i7 (10 : Int32) = true then (0 : Int32) else 1)), .unset, .unset, .val (.double r226), .second] [(.double r226)])) rfl (hb hby at_237) _ ?_
  show Steps p.tables e below (T0.setTop (mkF m 240 #[s0, s1, s2, s3, s4, .val (.int i5), .val (.int i6), .val (.int i7), .val (.int i8), .val (.int i9), .val (.int i10), s11, s12, s13, s14, .val (.int (if if_icmp.holds .gt i7 (10 : Int32) = true then (0 : Int32) else 1)), .unset, .unset, .val (.double r226), .second] [(.double (4613937818241073152 : UInt64)), (.double r226)])) _
  refine XS.iload X0.here hx rfl (hb hby at_240) rfl ?_
  show Steps p.tables e below (T0.setTop (mkF m 242 #[s0, s1, s2, s3, s4, .val (.int i5), .val (.int i6), .val (.int i7), .val (.int i8), .val (.int i9), .val (.int i10), s11, s12, s13, s14, .val (.int (if if_icmp.holds .gt i7 (10 : Int32) = true then (0 : Int32) else 1)), .unset, .unset, .val (.double r226), .second] [(.int i9), (.double (4613937818241073152 : UInt64)), (.double r226)])) _
  refine XS.i2dS X0.here hx rfl (hb hby at_242) rfl rfl ?_
  show Steps p.tables e below (T0.setTop (mkF m 243 #[s0, s1, s2, s3, s4, .val (.int i5), .val (.int i6), .val (.int i7), .val (.int i8), .val (.int i9), .val (.int i10), s11, s12, s13, s14, .val (.int (if if_icmp.holds .gt i7 (10 : Int32) = true then (0 : Int32) else 1)), .unset, .unset, .val (.double r226), .second] [(.double (FP.i2d i9)), (.double (4613937818241073152 : UInt64)), (.double r226)])) _
  refine XS.ddivS X0.here hx rfl (hb hby at_243) rfl hn243 hv243 ?_
  show Steps p.tables e below (T0.setTop (mkF m 244 #[s0, s1, s2, s3, s4, .val (.int i5), .val (.int i6), .val (.int i7), .val (.int i8), .val (.int i9), .val (.int i10), s11, s12, s13, s14, .val (.int (if if_icmp.holds .gt i7 (10 : Int32) = true then (0 : Int32) else 1)), .unset, .unset, .val (.double r226), .second] [(.double r243), (.double r226)])) _
  refine XS.daddS X0.here hx rfl (hb hby at_244) rfl hn244 hv244 ?_
  show Steps p.tables e below (T0.setTop (mkF m 245 #[s0, s1, s2, s3, s4, .val (.int i5), .val (.int i6), .val (.int i7), .val (.int i8), .val (.int i9), .val (.int i10), s11, s12, s13, s14, .val (.int (if if_icmp.holds .gt i7 (10 : Int32) = true then (0 : Int32) else 1)), .unset, .unset, .val (.double r226), .second] [(.double r244)])) _
  refine XS.dstore X0.here hx rfl (hb hby at_245) rfl (l' := #[s0, s1, s2, s3, s4, .val (.int i5), .val (.int i6), .val (.int i7), .val (.int i8), .val (.int i9), .val (.int i10), s11, s12, s13, s14, .val (.int (if if_icmp.holds .gt i7 (10 : Int32) = true then (0 : Int32) else 1)), .unset, .unset, .val (.double r244), .second]) rfl ?_
  show Steps p.tables e below (T0.setTop (mkF m 247 #[s0, s1, s2, s3, s4, .val (.int i5), .val (.int i6), .val (.int i7), .val (.int i8), .val (.int i9), .val (.int i10), s11, s12, s13, s14, .val (.int (if if_icmp.holds .gt i7 (10 : Int32) = true then (0 : Int32) else 1)), .unset, .unset, .val (.double r244), .second] [])) _
  refine XS.dload X0.here hx rfl (hb hby at_247) rfl ?_
  show Steps p.tables e below (T0.setTop (mkF m 249 #[s0, s1, s2, s3, s4, .val (.int i5), .val (.int i6), .val (.int i7), .val (.int i8), .val (.int i9), .val (.int i10), s11, s12, s13, s14, .val (.int (if if_icmp.holds .gt i7 (10 : Int32) = true then (0 : Int32) else 1)), .unset, .unset, .val (.double r244), .second] [(.double r244)])) _
  refine XS.iload X0.here hx rfl (hb hby at_249) rfl ?_
  show Steps p.tables e below (T0.setTop (mkF m 251 #[s0, s1, s2, s3, s4, .val (.int i5), .val (.int i6), .val (.int i7), .val (.int i8), .val (.int i9), .val (.int i10), s11, s12, s13, s14, .val (.int (if if_icmp.holds .gt i7 (10 : Int32) = true then (0 : Int32) else 1)), .unset, .unset, .val (.double r244), .second] [(.int i10), (.double r244)])) _
  refine XS.i2dS X0.here hx rfl (hb hby at_251) rfl rfl ?_
  show Steps p.tables e below (T0.setTop (mkF m 252 #[s0, s1, s2, s3, s4, .val (.int i5), .val (.int i6), .val (.int i7), .val (.int i8), .val (.int i9), .val (.int i10), s11, s12, s13, s14, .val (.int (if if_icmp.holds .gt i7 (10 : Int32) = true then (0 : Int32) else 1)), .unset, .unset, .val (.double r244), .second] [(.double (FP.i2d i10)), (.double r244)])) _
  refine XS.ddivS X0.here hx rfl (hb hby at_252) rfl hn252 hv252 ?_
  show Steps p.tables e below (T0.setTop (mkF m 253 #[s0, s1, s2, s3, s4, .val (.int i5), .val (.int i6), .val (.int i7), .val (.int i8), .val (.int i9), .val (.int i10), s11, s12, s13, s14, .val (.int (if if_icmp.holds .gt i7 (10 : Int32) = true then (0 : Int32) else 1)), .unset, .unset, .val (.double r244), .second] [(.double r252)])) _
  refine XS.dstore X0.here hx rfl (hb hby at_253) rfl (l' := #[s0, s1, s2, s3, s4, .val (.int i5), .val (.int i6), .val (.int i7), .val (.int i8), .val (.int i9), .val (.int i10), s11, s12, s13, s14, .val (.int (if if_icmp.holds .gt i7 (10 : Int32) = true then (0 : Int32) else 1)), .val (.double r252), .second, .val (.double r244), .second]) rfl ?_
  show Steps p.tables e below (T0.setTop (mkF m 255 #[s0, s1, s2, s3, s4, .val (.int i5), .val (.int i6), .val (.int i7), .val (.int i8), .val (.int i9), .val (.int i10), s11, s12, s13, s14, .val (.int (if if_icmp.holds .gt i7 (10 : Int32) = true then (0 : Int32) else 1)), .val (.double r252), .second, .val (.double r244), .second] [])) _
  refine XS.goto X0.here hx rfl (pc0 := 255) (pc' := 397) rfl (hb hby at_255) (by decide) (by decide) ?_
  exact kt
set_option maxRecDepth 65536 in
set_option maxHeartbeats 40000000 in
theorem tl1_t {p : Program} {l : Launch} {e : Env} {R : Room} {s : State} {m : MethodId} {args : Array Value} {below : List Frame} {meth : Method} {c : Code} {T0 : State} {locs : List Loc} {cells slots : Nat} {Z : State} {a0 : Array Value} {h0 : Heap} (s0 : Slot) (s1 : Slot) (s2 : Slot) (s3 : Slot) (s4 : Slot) (i5 : Int32) (i6 : Int32) (s7 : Slot) (s8 : Slot) (s9 : Slot) (s10 : Slot) (s11 : Slot) (s12 : Slot) (s13 : Slot) (s14 : Slot)
    (X0 : Stand p l e R s m args below meth c T0 locs cells slots) (hx : p.tables.exec = Jvm.exec) (hZ : Z.Warmed39 s.vm) (hw : ∀ d ∈ tables_1, d.before a0 Z = true) (hby : c.code = code) (hml : c.maxLocals = 20) (hown : s.vm.findClass "com/example/pesquisa/pesquisa/MeasureScorePinLaw" = some m.cls) (e0 : T0.heap = h0) (hc173 : ¬ ((0 : Int32) < i6)) (hc192 : ¬ (i5 = (0 : Int32))) (hc261 : i5 = (1 : Int32)) :
    ∃ (T' : State), Stand p l e R s m args below meth c T' locs cells slots ∧ T'.heap = h0 ∧
      ∀ target, Steps p.tables e below (T'.setTop (mkF m 267 #[s0, s1, s2, s3, s4, .val (.int i5), .val (.int i6), s7, s8, s9, s10, s11, s12, s13, s14, .val (.int (0 : Int32)), .unset, .unset, .val (.int (0 : Int32)), .unset] [])) target → Steps p.tables e below (T0.setTop (mkF m 171 #[s0, s1, s2, s3, s4, .val (.int i5), .val (.int i6), s7, s8, s9, s10, s11, s12, s13, s14, .unset, .unset, .unset, .unset, .unset] [])) target := by

  refine ⟨T0, X0, e0, fun target kt => ?_⟩
  show Steps p.tables e below (T0.setTop (mkF m 171 #[s0, s1, s2, s3, s4, .val (.int i5), .val (.int i6), s7, s8, s9, s10, s11, s12, s13, s14, .unset, .unset, .unset, .unset, .unset] [])) _
  refine XS.iload X0.here hx rfl (hb hby at_171) rfl ?_
  show Steps p.tables e below (T0.setTop (mkF m 173 #[s0, s1, s2, s3, s4, .val (.int i5), .val (.int i6), s7, s8, s9, s10, s11, s12, s13, s14, .unset, .unset, .unset, .unset, .unset] [(.int i6)])) _
  refine XS.ifYes X0.here hx rfl (pc0 := 173) (pc' := 187) rfl (hb hby at_173) rfl ((if0 _ _).trans (flt hc173).2.2.2) (by decide) (by decide) ?_
  show Steps p.tables e below (T0.setTop (mkF m 187 #[s0, s1, s2, s3, s4, .val (.int i5), .val (.int i6), s7, s8, s9, s10, s11, s12, s13, s14, .unset, .unset, .unset, .unset, .unset] [])) _
  refine XS.iconst X0.here hx rfl (hb hby at_187) ?_
  show Steps p.tables e below (T0.setTop (mkF m 188 #[s0, s1, s2, s3, s4, .val (.int i5), .val (.int i6), s7, s8, s9, s10, s11, s12, s13, s14, .unset, .unset, .unset, .unset, .unset] [(.int (0 : Int32))])) _
  refine XS.istore X0.here hx rfl (hb hby at_188) rfl (l' := #[s0, s1, s2, s3, s4, .val (.int i5), .val (.int i6), s7, s8, s9, s10, s11, s12, s13, s14, .val (.int (0 : Int32)), .unset, .unset, .unset, .unset]) rfl ?_
  show Steps p.tables e below (T0.setTop (mkF m 190 #[s0, s1, s2, s3, s4, .val (.int i5), .val (.int i6), s7, s8, s9, s10, s11, s12, s13, s14, .val (.int (0 : Int32)), .unset, .unset, .unset, .unset] [])) _
  refine XS.iload X0.here hx rfl (hb hby at_190) rfl ?_
  show Steps p.tables e below (T0.setTop (mkF m 192 #[s0, s1, s2, s3, s4, .val (.int i5), .val (.int i6), s7, s8, s9, s10, s11, s12, s13, s14, .val (.int (0 : Int32)), .unset, .unset, .unset, .unset] [(.int i5)])) _
  refine XS.ifYes X0.here hx rfl (pc0 := 192) (pc' := 258) rfl (hb hby at_192) rfl ((if0 _ _).trans (feq hc192).2) (by decide) (by decide) ?_
  show Steps p.tables e below (T0.setTop (mkF m 258 #[s0, s1, s2, s3, s4, .val (.int i5), .val (.int i6), s7, s8, s9, s10, s11, s12, s13, s14, .val (.int (0 : Int32)), .unset, .unset, .unset, .unset] [])) _
  refine XS.iload X0.here hx rfl (hb hby at_258) rfl ?_
  show Steps p.tables e below (T0.setTop (mkF m 260 #[s0, s1, s2, s3, s4, .val (.int i5), .val (.int i6), s7, s8, s9, s10, s11, s12, s13, s14, .val (.int (0 : Int32)), .unset, .unset, .unset, .unset] [(.int i5)])) _
  refine XS.iconst X0.here hx rfl (hb hby at_260) ?_
  show Steps p.tables e below (T0.setTop (mkF m 261 #[s0, s1, s2, s3, s4, .val (.int i5), .val (.int i6), s7, s8, s9, s10, s11, s12, s13, s14, .val (.int (0 : Int32)), .unset, .unset, .unset, .unset] [(.int (1 : Int32)), (.int i5)])) _
  refine XS.icmpNo X0.here hx rfl (hb hby at_261) rfl (teq hc261).2 ?_
  show Steps p.tables e below (T0.setTop (mkF m 264 #[s0, s1, s2, s3, s4, .val (.int i5), .val (.int i6), s7, s8, s9, s10, s11, s12, s13, s14, .val (.int (0 : Int32)), .unset, .unset, .unset, .unset] [])) _
  refine XS.iconst X0.here hx rfl (hb hby at_264) ?_
  show Steps p.tables e below (T0.setTop (mkF m 265 #[s0, s1, s2, s3, s4, .val (.int i5), .val (.int i6), s7, s8, s9, s10, s11, s12, s13, s14, .val (.int (0 : Int32)), .unset, .unset, .unset, .unset] [(.int (0 : Int32))])) _
  refine XS.istore X0.here hx rfl (hb hby at_265) rfl (l' := #[s0, s1, s2, s3, s4, .val (.int i5), .val (.int i6), s7, s8, s9, s10, s11, s12, s13, s14, .val (.int (0 : Int32)), .unset, .unset, .val (.int (0 : Int32)), .unset]) rfl ?_
  exact kt
set_option maxRecDepth 65536 in
set_option maxHeartbeats 40000000 in
theorem tl1_f {p : Program} {l : Launch} {e : Env} {R : Room} {s : State} {m : MethodId} {args : Array Value} {below : List Frame} {meth : Method} {c : Code} {T0 : State} {locs : List Loc} {cells slots : Nat} {Z : State} {a0 : Array Value} {h0 : Heap} (s0 : Slot) (s1 : Slot) (s2 : Slot) (s3 : Slot) (s4 : Slot) (i5 : Int32) (i6 : Int32) (i7 : Int32) (s8 : Slot) (s9 : Slot) (s10 : Slot) (s11 : Slot) (s12 : Slot) (s13 : Slot) (s14 : Slot)
    (X0 : Stand p l e R s m args below meth c T0 locs cells slots) (hx : p.tables.exec = Jvm.exec) (hZ : Z.Warmed39 s.vm) (hw : ∀ d ∈ tables_1, d.before a0 Z = true) (hby : c.code = code) (hml : c.maxLocals = 20) (hown : s.vm.findClass "com/example/pesquisa/pesquisa/MeasureScorePinLaw" = some m.cls) (e0 : T0.heap = h0) (hc173 : (0 : Int32) < i6) (hc192 : ¬ (i5 = (0 : Int32))) (hc261 : i5 = (1 : Int32)) :
    ∃ (T' : State), Stand p l e R s m args below meth c T' locs cells slots ∧ T'.heap = h0 ∧
      ∀ target, Steps p.tables e below (T'.setTop (mkF m 267 #[s0, s1, s2, s3, s4, .val (.int i5), .val (.int i6), .val (.int i7), s8, s9, s10, s11, s12, s13, s14, .val (.int (if if_icmp.holds .gt i7 (10 : Int32) = true then (0 : Int32) else 1)), .unset, .unset, .val (.int (0 : Int32)), .unset] [])) target → Steps p.tables e below (T0.setTop (mkF m 171 #[s0, s1, s2, s3, s4, .val (.int i5), .val (.int i6), .val (.int i7), s8, s9, s10, s11, s12, s13, s14, .unset, .unset, .unset, .unset, .unset] [])) target := by

  refine ⟨T0, X0, e0, fun target kt => ?_⟩
  show Steps p.tables e below (T0.setTop (mkF m 171 #[s0, s1, s2, s3, s4, .val (.int i5), .val (.int i6), .val (.int i7), s8, s9, s10, s11, s12, s13, s14, .unset, .unset, .unset, .unset, .unset] [])) _
  refine XS.iload X0.here hx rfl (hb hby at_171) rfl ?_
  show Steps p.tables e below (T0.setTop (mkF m 173 #[s0, s1, s2, s3, s4, .val (.int i5), .val (.int i6), .val (.int i7), s8, s9, s10, s11, s12, s13, s14, .unset, .unset, .unset, .unset, .unset] [(.int i6)])) _
  refine XS.ifNo X0.here hx rfl (hb hby at_173) rfl ((if0 _ _).trans (tlt hc173).2.2.2) ?_
  show Steps p.tables e below (T0.setTop (mkF m 176 #[s0, s1, s2, s3, s4, .val (.int i5), .val (.int i6), .val (.int i7), s8, s9, s10, s11, s12, s13, s14, .unset, .unset, .unset, .unset, .unset] [])) _
  refine XS.iload X0.here hx rfl (hb hby at_176) rfl ?_
  show Steps p.tables e below (T0.setTop (mkF m 178 #[s0, s1, s2, s3, s4, .val (.int i5), .val (.int i6), .val (.int i7), s8, s9, s10, s11, s12, s13, s14, .unset, .unset, .unset, .unset, .unset] [(.int i7)])) _
  refine XS.bipush X0.here hx rfl (hb hby at_178) ?_
  show Steps p.tables e below (T0.setTop (mkF m 180 #[s0, s1, s2, s3, s4, .val (.int i5), .val (.int i6), .val (.int i7), s8, s9, s10, s11, s12, s13, s14, .unset, .unset, .unset, .unset, .unset] [(.int (10 : Int32)), (.int i7)])) _
  refine own_selI X0.here hx (hb hby at_180) (hb hby at_183) (hb hby at_184) (hb hby at_187) ?_
  show Steps p.tables e below (T0.setTop (mkF m 188 #[s0, s1, s2, s3, s4, .val (.int i5), .val (.int i6), .val (.int i7), s8, s9, s10, s11, s12, s13, s14, .unset, .unset, .unset, .unset, .unset] [(.int (if if_icmp.holds .gt i7 (10 : Int32) = true then (0 : Int32) else 1))])) _
  refine XS.istore X0.here hx rfl (hb hby at_188) rfl (l' := #[s0, s1, s2, s3, s4, .val (.int i5), .val (.int i6), .val (.int i7), s8, s9, s10, s11, s12, s13, s14, .val (.int (if if_icmp.holds .gt i7 (10 : Int32) = true then (0 : Int32) else 1)), .unset, .unset, .unset, .unset]) rfl ?_
  show Steps p.tables e below (T0.setTop (mkF m 190 #[s0, s1, s2, s3, s4, .val (.int i5), .val (.int i6), .val (.int i7), s8, s9, s10, s11, s12, s13, s14, .val (.int (if if_icmp.holds .gt i7 (10 : Int32) = true then (0 : Int32) else 1)), .unset, .unset, .unset, .unset] [])) _
  refine XS.iload X0.here hx rfl (hb hby at_190) rfl ?_
  show Steps p.tables e below (T0.setTop (mkF m 192 #[s0, s1, s2, s3, s4, .val (.int i5), .val (.int i6), .val (.int i7), s8, s9, s10, s11, s12, s13, s14, .val (.int (if if_icmp.holds .gt i7 (10 : Int32) = true then (0 : Int32) else 1)), .unset, .unset, .unset, .unset] [(.int i5)])) _
  refine XS.ifYes X0.here hx rfl (pc0 := 192) (pc' := 258) rfl (hb hby at_192) rfl ((if0 _ _).trans (feq hc192).2) (by decide) (by decide) ?_
  show Steps p.tables e below (T0.setTop (mkF m 258 #[s0, s1, s2, s3, s4, .val (.int i5), .val (.int i6), .val (.int i7), s8, s9, s10, s11, s12, s13, s14, .val (.int (if if_icmp.holds .gt i7 (10 : Int32) = true then (0 : Int32) else 1)), .unset, .unset, .unset, .unset] [])) _
  refine XS.iload X0.here hx rfl (hb hby at_258) rfl ?_
  show Steps p.tables e below (T0.setTop (mkF m 260 #[s0, s1, s2, s3, s4, .val (.int i5), .val (.int i6), .val (.int i7), s8, s9, s10, s11, s12, s13, s14, .val (.int (if if_icmp.holds .gt i7 (10 : Int32) = true then (0 : Int32) else 1)), .unset, .unset, .unset, .unset] [(.int i5)])) _
  refine XS.iconst X0.here hx rfl (hb hby at_260) ?_
  show Steps p.tables e below (T0.setTop (mkF m 261 #[s0, s1, s2, s3, s4, .val (.int i5), .val (.int i6), .val (.int i7), s8, s9, s10, s11, s12, s13, s14, .val (.int (if if_icmp.holds .gt i7 (10 : Int32) = true then (0 : Int32) else 1)), .unset, .unset, .unset, .unset] [(.int (1 : Int32)), (.int i5)])) _
  refine XS.icmpNo X0.here hx rfl (hb hby at_261) rfl (teq hc261).2 ?_
  show Steps p.tables e below (T0.setTop (mkF m 264 #[s0, s1, s2, s3, s4, .val (.int i5), .val (.int i6), .val (.int i7), s8, s9, s10, s11, s12, s13, s14, .val (.int (if if_icmp.holds .gt i7 (10 : Int32) = true then (0 : Int32) else 1)), .unset, .unset, .unset, .unset] [])) _
  refine XS.iconst X0.here hx rfl (hb hby at_264) ?_
  show Steps p.tables e below (T0.setTop (mkF m 265 #[s0, s1, s2, s3, s4, .val (.int i5), .val (.int i6), .val (.int i7), s8, s9, s10, s11, s12, s13, s14, .val (.int (if if_icmp.holds .gt i7 (10 : Int32) = true then (0 : Int32) else 1)), .unset, .unset, .unset, .unset] [(.int (0 : Int32))])) _
  refine XS.istore X0.here hx rfl (hb hby at_265) rfl (l' := #[s0, s1, s2, s3, s4, .val (.int i5), .val (.int i6), .val (.int i7), s8, s9, s10, s11, s12, s13, s14, .val (.int (if if_icmp.holds .gt i7 (10 : Int32) = true then (0 : Int32) else 1)), .unset, .unset, .val (.int (0 : Int32)), .unset]) rfl ?_
  exact kt
set_option maxRecDepth 65536 in
set_option maxHeartbeats 40000000 in
theorem b267t {p : Program} {l : Launch} {e : Env} {R : Room} {s : State} {m : MethodId} {args : Array Value} {below : List Frame} {meth : Method} {c : Code} {T0 : State} {locs : List Loc} {cells slots : Nat} {Z : State} {a0 : Array Value} {h0 : Heap} (s0 : Slot) (s1 : Slot) (s2 : Slot) (s3 : Slot) (s4 : Slot) (s5 : Slot) (i6 : Int32) (s7 : Slot) (s8 : Slot) (s9 : Slot) (s10 : Slot) (s11 : Slot) (s12 : Slot) (s13 : Slot) (s14 : Slot) (s15 : Slot) (s16 : Slot) (s17 : Slot) (s18 : Slot)
    (X0 : Stand p l e R s m args below meth c T0 locs cells slots) (hx : p.tables.exec = Jvm.exec) (hZ : Z.Warmed39 s.vm) (hw : ∀ d ∈ tables_1, d.before a0 Z = true) (hby : c.code = code) (hml : c.maxLocals = 20) (hown : s.vm.findClass "com/example/pesquisa/pesquisa/MeasureScorePinLaw" = some m.cls) (e0 : T0.heap = h0) (hc269 : ¬ ((0 : Int32) < i6)) :
    ∃ (T' : State), Stand p l e R s m args below meth c T' locs cells slots ∧ T'.heap = h0 ∧
      ∀ target, Steps p.tables e below (T'.setTop (mkF m 285 #[s0, s1, s2, s3, s4, s5, .val (.int i6), s7, s8, s9, s10, s11, s12, s13, s14, s15, s16, s17, s18, .unset] [])) target → Steps p.tables e below (T0.setTop (mkF m 267 #[s0, s1, s2, s3, s4, s5, .val (.int i6), s7, s8, s9, s10, s11, s12, s13, s14, s15, s16, s17, s18, .unset] [])) target := by

  refine ⟨T0, X0, e0, fun target kt => ?_⟩
  show Steps p.tables e below (T0.setTop (mkF m 267 #[s0, s1, s2, s3, s4, s5, .val (.int i6), s7, s8, s9, s10, s11, s12, s13, s14, s15, s16, s17, s18, .unset] [])) _
  refine XS.iload X0.here hx rfl (hb hby at_267) rfl ?_
  show Steps p.tables e below (T0.setTop (mkF m 269 #[s0, s1, s2, s3, s4, s5, .val (.int i6), s7, s8, s9, s10, s11, s12, s13, s14, s15, s16, s17, s18, .unset] [(.int i6)])) _
  refine XS.ifYes X0.here hx rfl (pc0 := 269) (pc' := 285) rfl (hb hby at_269) rfl ((if0 _ _).trans (flt hc269).2.2.2) (by decide) (by decide) ?_
  exact kt
set_option maxRecDepth 65536 in
set_option maxHeartbeats 40000000 in
theorem b267ft {p : Program} {l : Launch} {e : Env} {R : Room} {s : State} {m : MethodId} {args : Array Value} {below : List Frame} {meth : Method} {c : Code} {T0 : State} {locs : List Loc} {cells slots : Nat} {Z : State} {a0 : Array Value} {h0 : Heap} (s0 : Slot) (s1 : Slot) (s2 : Slot) (s3 : Slot) (s4 : Slot) (s5 : Slot) (i6 : Int32) (i7 : Int32) (s8 : Slot) (s9 : Slot) (s10 : Slot) (s11 : Slot) (s12 : Slot) (s13 : Slot) (s14 : Slot) (s15 : Slot) (s16 : Slot) (s17 : Slot) (s18 : Slot)
    (X0 : Stand p l e R s m args below meth c T0 locs cells slots) (hx : p.tables.exec = Jvm.exec) (hZ : Z.Warmed39 s.vm) (hw : ∀ d ∈ tables_1, d.before a0 Z = true) (hby : c.code = code) (hml : c.maxLocals = 20) (hown : s.vm.findClass "com/example/pesquisa/pesquisa/MeasureScorePinLaw" = some m.cls) (e0 : T0.heap = h0) (hc269 : (0 : Int32) < i6) (hc276 : (10 : Int32) < i7) :
    ∃ (T' : State), Stand p l e R s m args below meth c T' locs cells slots ∧ T'.heap = h0 ∧
      ∀ target, Steps p.tables e below (T'.setTop (mkF m 285 #[s0, s1, s2, s3, s4, s5, .val (.int i6), .val (.int i7), s8, s9, s10, s11, s12, s13, s14, s15, s16, s17, s18, .unset] [])) target → Steps p.tables e below (T0.setTop (mkF m 267 #[s0, s1, s2, s3, s4, s5, .val (.int i6), .val (.int i7), s8, s9, s10, s11, s12, s13, s14, s15, s16, s17, s18, .unset] [])) target := by

  refine ⟨T0, X0, e0, fun target kt => ?_⟩
  show Steps p.tables e below (T0.setTop (mkF m 267 #[s0, s1, s2, s3, s4, s5, .val (.int i6), .val (.int i7), s8, s9, s10, s11, s12, s13, s14, s15, s16, s17, s18, .unset] [])) _
  refine XS.iload X0.here hx rfl (hb hby at_267) rfl ?_
  show Steps p.tables e below (T0.setTop (mkF m 269 #[s0, s1, s2, s3, s4, s5, .val (.int i6), .val (.int i7), s8, s9, s10, s11, s12, s13, s14, s15, s16, s17, s18, .unset] [(.int i6)])) _
  refine XS.ifNo X0.here hx rfl (hb hby at_269) rfl ((if0 _ _).trans (tlt hc269).2.2.2) ?_
  show Steps p.tables e below (T0.setTop (mkF m 272 #[s0, s1, s2, s3, s4, s5, .val (.int i6), .val (.int i7), s8, s9, s10, s11, s12, s13, s14, s15, s16, s17, s18, .unset] [])) _
  refine XS.iload X0.here hx rfl (hb hby at_272) rfl ?_
  show Steps p.tables e below (T0.setTop (mkF m 274 #[s0, s1, s2, s3, s4, s5, .val (.int i6), .val (.int i7), s8, s9, s10, s11, s12, s13, s14, s15, s16, s17, s18, .unset] [(.int i7)])) _
  refine XS.bipush X0.here hx rfl (hb hby at_274) ?_
  show Steps p.tables e below (T0.setTop (mkF m 276 #[s0, s1, s2, s3, s4, s5, .val (.int i6), .val (.int i7), s8, s9, s10, s11, s12, s13, s14, s15, s16, s17, s18, .unset] [(.int (10 : Int32)), (.int i7)])) _
  refine XS.icmpYes X0.here hx rfl (pc0 := 276) (pc' := 285) rfl (hb hby at_276) rfl (tlt hc276).2.2.1 (by decide) (by decide) ?_
  exact kt
set_option maxRecDepth 65536 in
set_option maxHeartbeats 40000000 in
theorem b267ff {p : Program} {l : Launch} {e : Env} {R : Room} {s : State} {m : MethodId} {args : Array Value} {below : List Frame} {meth : Method} {c : Code} {T0 : State} {locs : List Loc} {cells slots : Nat} {Z : State} {a0 : Array Value} {h0 : Heap} (s0 : Slot) (s1 : Slot) (s2 : Slot) (s3 : Slot) (s4 : Slot) (s5 : Slot) (i6 : Int32) (i7 : Int32) (s8 : Slot) (s9 : Slot) (s10 : Slot) (s11 : Slot) (s12 : Slot) (s13 : Slot) (s14 : Slot) (s15 : Slot) (s16 : Slot) (s17 : Slot) (i18 : Int32)
    (X0 : Stand p l e R s m args below meth c T0 locs cells slots) (hx : p.tables.exec = Jvm.exec) (hZ : Z.Warmed39 s.vm) (hw : ∀ d ∈ tables_1, d.before a0 Z = true) (hby : c.code = code) (hml : c.maxLocals = 20) (hown : s.vm.findClass "com/example/pesquisa/pesquisa/MeasureScorePinLaw" = some m.cls) (e0 : T0.heap = h0) (hc269 : (0 : Int32) < i6) (hc276 : ¬ ((10 : Int32) < i7)) :
    ∃ (T' : State), Stand p l e R s m args below meth c T' locs cells slots ∧ T'.heap = h0 ∧
      ∀ target, Steps p.tables e below (T'.setTop (mkF m 285 #[s0, s1, s2, s3, s4, s5, .val (.int i6), .val (.int i7), s8, s9, s10, s11, s12, s13, s14, s15, s16, s17, .val (.int (i18 + (1 : Int32))), .unset] [])) target → Steps p.tables e below (T0.setTop (mkF m 267 #[s0, s1, s2, s3, s4, s5, .val (.int i6), .val (.int i7), s8, s9, s10, s11, s12, s13, s14, s15, s16, s17, .val (.int i18), .unset] [])) target := by

  refine ⟨T0, X0, e0, fun target kt => ?_⟩
  show Steps p.tables e below (T0.setTop (mkF m 267 #[s0, s1, s2, s3, s4, s5, .val (.int i6), .val (.int i7), s8, s9, s10, s11, s12, s13, s14, s15, s16, s17, .val (.int i18), .unset] [])) _
  refine XS.iload X0.here hx rfl (hb hby at_267) rfl ?_
  show Steps p.tables e below (T0.setTop (mkF m 269 #[s0, s1, s2, s3, s4, s5, .val (.int i6), .val (.int i7), s8, s9, s10, s11, s12, s13, s14, s15, s16, s17, .val (.int i18), .unset] [(.int i6)])) _
  refine XS.ifNo X0.here hx rfl (hb hby at_269) rfl ((if0 _ _).trans (tlt hc269).2.2.2) ?_
  show Steps p.tables e below (T0.setTop (mkF m 272 #[s0, s1, s2, s3, s4, s5, .val (.int i6), .val (.int i7), s8, s9, s10, s11, s12, s13, s14, s15, s16, s17, .val (.int i18), .unset] [])) _
  refine XS.iload X0.here hx rfl (hb hby at_272) rfl ?_
  show Steps p.tables e below (T0.setTop (mkF m 274 #[s0, s1, s2, s3, s4, s5, .val (.int i6), .val (.int i7), s8, s9, s10, s11, s12, s13, s14, s15, s16, s17, .val (.int i18), .unset] [(.int i7)])) _
  refine XS.bipush X0.here hx rfl (hb hby at_274) ?_
  show Steps p.tables e below (T0.setTop (mkF m 276 #[s0, s1, s2, s3, s4, s5, .val (.int i6), .val (.int i7), s8, s9, s10, s11, s12, s13, s14, s15, s16, s17, .val (.int i18), .unset] [(.int (10 : Int32)), (.int i7)])) _
  refine XS.icmpNo X0.here hx rfl (hb hby at_276) rfl (flt hc276).2.2.1 ?_
  show Steps p.tables e below (T0.setTop (mkF m 279 #[s0, s1, s2, s3, s4, s5, .val (.int i6), .val (.int i7), s8, s9, s10, s11, s12, s13, s14, s15, s16, s17, .val (.int i18), .unset] [])) _
  refine XS.iload X0.here hx rfl (hb hby at_279) rfl ?_
  show Steps p.tables e below (T0.setTop (mkF m 281 #[s0, s1, s2, s3, s4, s5, .val (.int i6), .val (.int i7), s8, s9, s10, s11, s12, s13, s14, s15, s16, s17, .val (.int i18), .unset] [(.int i18)])) _
  refine XS.iconst X0.here hx rfl (hb hby at_281) ?_
  show Steps p.tables e below (T0.setTop (mkF m 282 #[s0, s1, s2, s3, s4, s5, .val (.int i6), .val (.int i7), s8, s9, s10, s11, s12, s13, s14, s15, s16, s17, .val (.int i18), .unset] [(.int (1 : Int32)), (.int i18)])) _
  refine XS.iadd X0.here hx rfl (hb hby at_282) rfl ?_
  show Steps p.tables e below (T0.setTop (mkF m 283 #[s0, s1, s2, s3, s4, s5, .val (.int i6), .val (.int i7), s8, s9, s10, s11, s12, s13, s14, s15, s16, s17, .val (.int i18), .unset] [(.int (i18 + (1 : Int32)))])) _
  refine XS.istore X0.here hx rfl (hb hby at_283) rfl (l' := #[s0, s1, s2, s3, s4, s5, .val (.int i6), .val (.int i7), s8, s9, s10, s11, s12, s13, s14, s15, s16, s17, .val (.int (i18 + (1 : Int32))), .unset]) rfl ?_
  exact kt
theorem b267 {p : Program} {l : Launch} {e : Env} {R : Room} {s : State} {m : MethodId} {args : Array Value} {below : List Frame} {meth : Method} {c : Code} {T0 : State} {locs : List Loc} {cells slots : Nat} {Z : State} {a0 : Array Value} {h0 : Heap} (s0 : Slot) (s1 : Slot) (s2 : Slot) (s3 : Slot) (s4 : Slot) (s5 : Slot) (i6 : Int32) (i7 : Int32) (s8 : Slot) (s9 : Slot) (s10 : Slot) (s11 : Slot) (s12 : Slot) (s13 : Slot) (s14 : Slot) (s15 : Slot) (s16 : Slot) (s17 : Slot) (i18 : Int32) (j18 : Int32) (X0 : Stand p l e R s m args below meth c T0 locs cells slots) (hx : p.tables.exec = Jvm.exec) (hZ : Z.Warmed39 s.vm) (hw : ∀ d ∈ tables_1, d.before a0 Z = true) (hby : c.code = code) (hml : c.maxLocals = 20) (hown : s.vm.findClass "com/example/pesquisa/pesquisa/MeasureScorePinLaw" = some m.cls) (e0 : T0.heap = h0) (hj : (if (0 : Int32) < i6 then (if (10 : Int32) < i7 then i18 else i18 + (1 : Int32)) else i18) = j18) :
    ∃ T' : State, Stand p l e R s m args below meth c T' locs cells slots ∧ T'.heap = h0 ∧
      ∀ target, Steps p.tables e below (T'.setTop (mkF m 285 #[s0, s1, s2, s3, s4, s5, .val (.int i6), .val (.int i7), s8, s9, s10, s11, s12, s13, s14, s15, s16, s17, .val (.int j18), .unset] [])) target → Steps p.tables e below (T0.setTop (mkF m 267 #[s0, s1, s2, s3, s4, s5, .val (.int i6), .val (.int i7), s8, s9, s10, s11, s12, s13, s14, s15, s16, s17, .val (.int i18), .unset] [])) target := by
  subst hj
  by_cases h : (0 : Int32) < i6
  · rw [if_pos h]
    by_cases h2 : (10 : Int32) < i7
    · rw [if_pos h2]; exact b267ft (a0 := a0) (s0) (s1) (s2) (s3) (s4) (s5) i6 i7 (s8) (s9) (s10) (s11) (s12) (s13) (s14) (s15) (s16) (s17) (.val (.int i18)) X0 hx hZ hw hby hml hown e0 h h2
    · rw [if_neg h2]; exact b267ff (a0 := a0) (s0) (s1) (s2) (s3) (s4) (s5) i6 i7 (s8) (s9) (s10) (s11) (s12) (s13) (s14) (s15) (s16) (s17) i18 X0 hx hZ hw hby hml hown e0 h h2
  · rw [if_neg h]; exact b267t (a0 := a0) (s0) (s1) (s2) (s3) (s4) (s5) i6 (.val (.int i7)) (s8) (s9) (s10) (s11) (s12) (s13) (s14) (s15) (s16) (s17) (.val (.int i18)) X0 hx hZ hw hby hml hown e0 h
set_option maxRecDepth 65536 in
set_option maxHeartbeats 40000000 in
theorem b285t {p : Program} {l : Launch} {e : Env} {R : Room} {s : State} {m : MethodId} {args : Array Value} {below : List Frame} {meth : Method} {c : Code} {T0 : State} {locs : List Loc} {cells slots : Nat} {Z : State} {a0 : Array Value} {h0 : Heap} (s0 : Slot) (s1 : Slot) (s2 : Slot) (s3 : Slot) (s4 : Slot) (s5 : Slot) (i6 : Int32) (s7 : Slot) (s8 : Slot) (s9 : Slot) (s10 : Slot) (s11 : Slot) (s12 : Slot) (s13 : Slot) (s14 : Slot) (s15 : Slot) (s16 : Slot) (s17 : Slot) (s18 : Slot)
    (X0 : Stand p l e R s m args below meth c T0 locs cells slots) (hx : p.tables.exec = Jvm.exec) (hZ : Z.Warmed39 s.vm) (hw : ∀ d ∈ tables_1, d.before a0 Z = true) (hby : c.code = code) (hml : c.maxLocals = 20) (hown : s.vm.findClass "com/example/pesquisa/pesquisa/MeasureScorePinLaw" = some m.cls) (e0 : T0.heap = h0) (hc288 : ¬ ((1 : Int32) < i6)) :
    ∃ (T' : State), Stand p l e R s m args below meth c T' locs cells slots ∧ T'.heap = h0 ∧
      ∀ target, Steps p.tables e below (T'.setTop (mkF m 304 #[s0, s1, s2, s3, s4, s5, .val (.int i6), s7, s8, s9, s10, s11, s12, s13, s14, s15, s16, s17, s18, .unset] [])) target → Steps p.tables e below (T0.setTop (mkF m 285 #[s0, s1, s2, s3, s4, s5, .val (.int i6), s7, s8, s9, s10, s11, s12, s13, s14, s15, s16, s17, s18, .unset] [])) target := by

  refine ⟨T0, X0, e0, fun target kt => ?_⟩
  show Steps p.tables e below (T0.setTop (mkF m 285 #[s0, s1, s2, s3, s4, s5, .val (.int i6), s7, s8, s9, s10, s11, s12, s13, s14, s15, s16, s17, s18, .unset] [])) _
  refine XS.iload X0.here hx rfl (hb hby at_285) rfl ?_
  show Steps p.tables e below (T0.setTop (mkF m 287 #[s0, s1, s2, s3, s4, s5, .val (.int i6), s7, s8, s9, s10, s11, s12, s13, s14, s15, s16, s17, s18, .unset] [(.int i6)])) _
  refine XS.iconst X0.here hx rfl (hb hby at_287) ?_
  show Steps p.tables e below (T0.setTop (mkF m 288 #[s0, s1, s2, s3, s4, s5, .val (.int i6), s7, s8, s9, s10, s11, s12, s13, s14, s15, s16, s17, s18, .unset] [(.int (1 : Int32)), (.int i6)])) _
  refine XS.icmpYes X0.here hx rfl (pc0 := 288) (pc' := 304) rfl (hb hby at_288) rfl (flt hc288).2.2.2 (by decide) (by decide) ?_
  exact kt
set_option maxRecDepth 65536 in
set_option maxHeartbeats 40000000 in
theorem b285ft {p : Program} {l : Launch} {e : Env} {R : Room} {s : State} {m : MethodId} {args : Array Value} {below : List Frame} {meth : Method} {c : Code} {T0 : State} {locs : List Loc} {cells slots : Nat} {Z : State} {a0 : Array Value} {h0 : Heap} (s0 : Slot) (s1 : Slot) (s2 : Slot) (s3 : Slot) (s4 : Slot) (s5 : Slot) (i6 : Int32) (s7 : Slot) (i8 : Int32) (s9 : Slot) (s10 : Slot) (s11 : Slot) (s12 : Slot) (s13 : Slot) (s14 : Slot) (s15 : Slot) (s16 : Slot) (s17 : Slot) (s18 : Slot)
    (X0 : Stand p l e R s m args below meth c T0 locs cells slots) (hx : p.tables.exec = Jvm.exec) (hZ : Z.Warmed39 s.vm) (hw : ∀ d ∈ tables_1, d.before a0 Z = true) (hby : c.code = code) (hml : c.maxLocals = 20) (hown : s.vm.findClass "com/example/pesquisa/pesquisa/MeasureScorePinLaw" = some m.cls) (e0 : T0.heap = h0) (hc288 : (1 : Int32) < i6) (hc295 : (10 : Int32) < i8) :
    ∃ (T' : State), Stand p l e R s m args below meth c T' locs cells slots ∧ T'.heap = h0 ∧
      ∀ target, Steps p.tables e below (T'.setTop (mkF m 304 #[s0, s1, s2, s3, s4, s5, .val (.int i6), s7, .val (.int i8), s9, s10, s11, s12, s13, s14, s15, s16, s17, s18, .unset] [])) target → Steps p.tables e below (T0.setTop (mkF m 285 #[s0, s1, s2, s3, s4, s5, .val (.int i6), s7, .val (.int i8), s9, s10, s11, s12, s13, s14, s15, s16, s17, s18, .unset] [])) target := by

  refine ⟨T0, X0, e0, fun target kt => ?_⟩
  show Steps p.tables e below (T0.setTop (mkF m 285 #[s0, s1, s2, s3, s4, s5, .val (.int i6), s7, .val (.int i8), s9, s10, s11, s12, s13, s14, s15, s16, s17, s18, .unset] [])) _
  refine XS.iload X0.here hx rfl (hb hby at_285) rfl ?_
  show Steps p.tables e below (T0.setTop (mkF m 287 #[s0, s1, s2, s3, s4, s5, .val (.int i6), s7, .val (.int i8), s9, s10, s11, s12, s13, s14, s15, s16, s17, s18, .unset] [(.int i6)])) _
  refine XS.iconst X0.here hx rfl (hb hby at_287) ?_
  show Steps p.tables e below (T0.setTop (mkF m 288 #[s0, s1, s2, s3, s4, s5, .val (.int i6), s7, .val (.int i8), s9, s10, s11, s12, s13, s14, s15, s16, s17, s18, .unset] [(.int (1 : Int32)), (.int i6)])) _
  refine XS.icmpNo X0.here hx rfl (hb hby at_288) rfl (tlt hc288).2.2.2 ?_
  show Steps p.tables e below (T0.setTop (mkF m 291 #[s0, s1, s2, s3, s4, s5, .val (.int i6), s7, .val (.int i8), s9, s10, s11, s12, s13, s14, s15, s16, s17, s18, .unset] [])) _
  refine XS.iload X0.here hx rfl (hb hby at_291) rfl ?_
  show Steps p.tables e below (T0.setTop (mkF m 293 #[s0, s1, s2, s3, s4, s5, .val (.int i6), s7, .val (.int i8), s9, s10, s11, s12, s13, s14, s15, s16, s17, s18, .unset] [(.int i8)])) _
  refine XS.bipush X0.here hx rfl (hb hby at_293) ?_
  show Steps p.tables e below (T0.setTop (mkF m 295 #[s0, s1, s2, s3, s4, s5, .val (.int i6), s7, .val (.int i8), s9, s10, s11, s12, s13, s14, s15, s16, s17, s18, .unset] [(.int (10 : Int32)), (.int i8)])) _
  refine XS.icmpYes X0.here hx rfl (pc0 := 295) (pc' := 304) rfl (hb hby at_295) rfl (tlt hc295).2.2.1 (by decide) (by decide) ?_
  exact kt
set_option maxRecDepth 65536 in
set_option maxHeartbeats 40000000 in
theorem b285ff {p : Program} {l : Launch} {e : Env} {R : Room} {s : State} {m : MethodId} {args : Array Value} {below : List Frame} {meth : Method} {c : Code} {T0 : State} {locs : List Loc} {cells slots : Nat} {Z : State} {a0 : Array Value} {h0 : Heap} (s0 : Slot) (s1 : Slot) (s2 : Slot) (s3 : Slot) (s4 : Slot) (s5 : Slot) (i6 : Int32) (s7 : Slot) (i8 : Int32) (s9 : Slot) (s10 : Slot) (s11 : Slot) (s12 : Slot) (s13 : Slot) (s14 : Slot) (s15 : Slot) (s16 : Slot) (s17 : Slot) (i18 : Int32)
    (X0 : Stand p l e R s m args below meth c T0 locs cells slots) (hx : p.tables.exec = Jvm.exec) (hZ : Z.Warmed39 s.vm) (hw : ∀ d ∈ tables_1, d.before a0 Z = true) (hby : c.code = code) (hml : c.maxLocals = 20) (hown : s.vm.findClass "com/example/pesquisa/pesquisa/MeasureScorePinLaw" = some m.cls) (e0 : T0.heap = h0) (hc288 : (1 : Int32) < i6) (hc295 : ¬ ((10 : Int32) < i8)) :
    ∃ (T' : State), Stand p l e R s m args below meth c T' locs cells slots ∧ T'.heap = h0 ∧
      ∀ target, Steps p.tables e below (T'.setTop (mkF m 304 #[s0, s1, s2, s3, s4, s5, .val (.int i6), s7, .val (.int i8), s9, s10, s11, s12, s13, s14, s15, s16, s17, .val (.int (i18 + (1 : Int32))), .unset] [])) target → Steps p.tables e below (T0.setTop (mkF m 285 #[s0, s1, s2, s3, s4, s5, .val (.int i6), s7, .val (.int i8), s9, s10, s11, s12, s13, s14, s15, s16, s17, .val (.int i18), .unset] [])) target := by

  refine ⟨T0, X0, e0, fun target kt => ?_⟩
  show Steps p.tables e below (T0.setTop (mkF m 285 #[s0, s1, s2, s3, s4, s5, .val (.int i6), s7, .val (.int i8), s9, s10, s11, s12, s13, s14, s15, s16, s17, .val (.int i18), .unset] [])) _
  refine XS.iload X0.here hx rfl (hb hby at_285) rfl ?_
  show Steps p.tables e below (T0.setTop (mkF m 287 #[s0, s1, s2, s3, s4, s5, .val (.int i6), s7, .val (.int i8), s9, s10, s11, s12, s13, s14, s15, s16, s17, .val (.int i18), .unset] [(.int i6)])) _
  refine XS.iconst X0.here hx rfl (hb hby at_287) ?_
  show Steps p.tables e below (T0.setTop (mkF m 288 #[s0, s1, s2, s3, s4, s5, .val (.int i6), s7, .val (.int i8), s9, s10, s11, s12, s13, s14, s15, s16, s17, .val (.int i18), .unset] [(.int (1 : Int32)), (.int i6)])) _
  refine XS.icmpNo X0.here hx rfl (hb hby at_288) rfl (tlt hc288).2.2.2 ?_
  show Steps p.tables e below (T0.setTop (mkF m 291 #[s0, s1, s2, s3, s4, s5, .val (.int i6), s7, .val (.int i8), s9, s10, s11, s12, s13, s14, s15, s16, s17, .val (.int i18), .unset] [])) _
  refine XS.iload X0.here hx rfl (hb hby at_291) rfl ?_
  show Steps p.tables e below (T0.setTop (mkF m 293 #[s0, s1, s2, s3, s4, s5, .val (.int i6), s7, .val (.int i8), s9, s10, s11, s12, s13, s14, s15, s16, s17, .val (.int i18), .unset] [(.int i8)])) _
  refine XS.bipush X0.here hx rfl (hb hby at_293) ?_
  show Steps p.tables e below (T0.setTop (mkF m 295 #[s0, s1, s2, s3, s4, s5, .val (.int i6), s7, .val (.int i8), s9, s10, s11, s12, s13, s14, s15, s16, s17, .val (.int i18), .unset] [(.int (10 : Int32)), (.int i8)])) _
  refine XS.icmpNo X0.here hx rfl (hb hby at_295) rfl (flt hc295).2.2.1 ?_
  show Steps p.tables e below (T0.setTop (mkF m 298 #[s0, s1, s2, s3, s4, s5, .val (.int i6), s7, .val (.int i8), s9, s10, s11, s12, s13, s14, s15, s16, s17, .val (.int i18), .unset] [])) _
  refine XS.iload X0.here hx rfl (hb hby at_298) rfl ?_
  show Steps p.tables e below (T0.setTop (mkF m 300 #[s0, s1, s2, s3, s4, s5, .val (.int i6), s7, .val (.int i8), s9, s10, s11, s12, s13, s14, s15, s16, s17, .val (.int i18), .unset] [(.int i18)])) _
  refine XS.iconst X0.here hx rfl (hb hby at_300) ?_
  show Steps p.tables e below (T0.setTop (mkF m 301 #[s0, s1, s2, s3, s4, s5, .val (.int i6), s7, .val (.int i8), s9, s10, s11, s12, s13, s14, s15, s16, s17, .val (.int i18), .unset] [(.int (1 : Int32)), (.int i18)])) _
  refine XS.iadd X0.here hx rfl (hb hby at_301) rfl ?_
  show Steps p.tables e below (T0.setTop (mkF m 302 #[s0, s1, s2, s3, s4, s5, .val (.int i6), s7, .val (.int i8), s9, s10, s11, s12, s13, s14, s15, s16, s17, .val (.int i18), .unset] [(.int (i18 + (1 : Int32)))])) _
  refine XS.istore X0.here hx rfl (hb hby at_302) rfl (l' := #[s0, s1, s2, s3, s4, s5, .val (.int i6), s7, .val (.int i8), s9, s10, s11, s12, s13, s14, s15, s16, s17, .val (.int (i18 + (1 : Int32))), .unset]) rfl ?_
  exact kt
theorem b285 {p : Program} {l : Launch} {e : Env} {R : Room} {s : State} {m : MethodId} {args : Array Value} {below : List Frame} {meth : Method} {c : Code} {T0 : State} {locs : List Loc} {cells slots : Nat} {Z : State} {a0 : Array Value} {h0 : Heap} (s0 : Slot) (s1 : Slot) (s2 : Slot) (s3 : Slot) (s4 : Slot) (s5 : Slot) (i6 : Int32) (s7 : Slot) (i8 : Int32) (s9 : Slot) (s10 : Slot) (s11 : Slot) (s12 : Slot) (s13 : Slot) (s14 : Slot) (s15 : Slot) (s16 : Slot) (s17 : Slot) (i18 : Int32) (j18 : Int32) (X0 : Stand p l e R s m args below meth c T0 locs cells slots) (hx : p.tables.exec = Jvm.exec) (hZ : Z.Warmed39 s.vm) (hw : ∀ d ∈ tables_1, d.before a0 Z = true) (hby : c.code = code) (hml : c.maxLocals = 20) (hown : s.vm.findClass "com/example/pesquisa/pesquisa/MeasureScorePinLaw" = some m.cls) (e0 : T0.heap = h0) (hj : (if (1 : Int32) < i6 then (if (10 : Int32) < i8 then i18 else i18 + (1 : Int32)) else i18) = j18) :
    ∃ T' : State, Stand p l e R s m args below meth c T' locs cells slots ∧ T'.heap = h0 ∧
      ∀ target, Steps p.tables e below (T'.setTop (mkF m 304 #[s0, s1, s2, s3, s4, s5, .val (.int i6), s7, .val (.int i8), s9, s10, s11, s12, s13, s14, s15, s16, s17, .val (.int j18), .unset] [])) target → Steps p.tables e below (T0.setTop (mkF m 285 #[s0, s1, s2, s3, s4, s5, .val (.int i6), s7, .val (.int i8), s9, s10, s11, s12, s13, s14, s15, s16, s17, .val (.int i18), .unset] [])) target := by
  subst hj
  by_cases h : (1 : Int32) < i6
  · rw [if_pos h]
    by_cases h2 : (10 : Int32) < i8
    · rw [if_pos h2]; exact b285ft (a0 := a0) (s0) (s1) (s2) (s3) (s4) (s5) i6 (s7) i8 (s9) (s10) (s11) (s12) (s13) (s14) (s15) (s16) (s17) (.val (.int i18)) X0 hx hZ hw hby hml hown e0 h h2
    · rw [if_neg h2]; exact b285ff (a0 := a0) (s0) (s1) (s2) (s3) (s4) (s5) i6 (s7) i8 (s9) (s10) (s11) (s12) (s13) (s14) (s15) (s16) (s17) i18 X0 hx hZ hw hby hml hown e0 h h2
  · rw [if_neg h]; exact b285t (a0 := a0) (s0) (s1) (s2) (s3) (s4) (s5) i6 (s7) (.val (.int i8)) (s9) (s10) (s11) (s12) (s13) (s14) (s15) (s16) (s17) (.val (.int i18)) X0 hx hZ hw hby hml hown e0 h
set_option maxRecDepth 65536 in
set_option maxHeartbeats 40000000 in
theorem b304t {p : Program} {l : Launch} {e : Env} {R : Room} {s : State} {m : MethodId} {args : Array Value} {below : List Frame} {meth : Method} {c : Code} {T0 : State} {locs : List Loc} {cells slots : Nat} {Z : State} {a0 : Array Value} {h0 : Heap} (s0 : Slot) (s1 : Slot) (s2 : Slot) (s3 : Slot) (s4 : Slot) (s5 : Slot) (i6 : Int32) (s7 : Slot) (s8 : Slot) (s9 : Slot) (s10 : Slot) (s11 : Slot) (s12 : Slot) (s13 : Slot) (s14 : Slot) (s15 : Slot) (s16 : Slot) (s17 : Slot) (s18 : Slot)
    (X0 : Stand p l e R s m args below meth c T0 locs cells slots) (hx : p.tables.exec = Jvm.exec) (hZ : Z.Warmed39 s.vm) (hw : ∀ d ∈ tables_1, d.before a0 Z = true) (hby : c.code = code) (hml : c.maxLocals = 20) (hown : s.vm.findClass "com/example/pesquisa/pesquisa/MeasureScorePinLaw" = some m.cls) (e0 : T0.heap = h0) (hc307 : ¬ ((2 : Int32) < i6)) :
    ∃ (T' : State), Stand p l e R s m args below meth c T' locs cells slots ∧ T'.heap = h0 ∧
      ∀ target, Steps p.tables e below (T'.setTop (mkF m 323 #[s0, s1, s2, s3, s4, s5, .val (.int i6), s7, s8, s9, s10, s11, s12, s13, s14, s15, s16, s17, s18, .unset] [])) target → Steps p.tables e below (T0.setTop (mkF m 304 #[s0, s1, s2, s3, s4, s5, .val (.int i6), s7, s8, s9, s10, s11, s12, s13, s14, s15, s16, s17, s18, .unset] [])) target := by

  refine ⟨T0, X0, e0, fun target kt => ?_⟩
  show Steps p.tables e below (T0.setTop (mkF m 304 #[s0, s1, s2, s3, s4, s5, .val (.int i6), s7, s8, s9, s10, s11, s12, s13, s14, s15, s16, s17, s18, .unset] [])) _
  refine XS.iload X0.here hx rfl (hb hby at_304) rfl ?_
  show Steps p.tables e below (T0.setTop (mkF m 306 #[s0, s1, s2, s3, s4, s5, .val (.int i6), s7, s8, s9, s10, s11, s12, s13, s14, s15, s16, s17, s18, .unset] [(.int i6)])) _
  refine XS.iconst X0.here hx rfl (hb hby at_306) ?_
  show Steps p.tables e below (T0.setTop (mkF m 307 #[s0, s1, s2, s3, s4, s5, .val (.int i6), s7, s8, s9, s10, s11, s12, s13, s14, s15, s16, s17, s18, .unset] [(.int (2 : Int32)), (.int i6)])) _
  refine XS.icmpYes X0.here hx rfl (pc0 := 307) (pc' := 323) rfl (hb hby at_307) rfl (flt hc307).2.2.2 (by decide) (by decide) ?_
  exact kt
set_option maxRecDepth 65536 in
set_option maxHeartbeats 40000000 in
theorem b304ft {p : Program} {l : Launch} {e : Env} {R : Room} {s : State} {m : MethodId} {args : Array Value} {below : List Frame} {meth : Method} {c : Code} {T0 : State} {locs : List Loc} {cells slots : Nat} {Z : State} {a0 : Array Value} {h0 : Heap} (s0 : Slot) (s1 : Slot) (s2 : Slot) (s3 : Slot) (s4 : Slot) (s5 : Slot) (i6 : Int32) (s7 : Slot) (s8 : Slot) (i9 : Int32) (s10 : Slot) (s11 : Slot) (s12 : Slot) (s13 : Slot) (s14 : Slot) (s15 : Slot) (s16 : Slot) (s17 : Slot) (s18 : Slot)
    (X0 : Stand p l e R s m args below meth c T0 locs cells slots) (hx : p.tables.exec = Jvm.exec) (hZ : Z.Warmed39 s.vm) (hw : ∀ d ∈ tables_1, d.before a0 Z = true) (hby : c.code = code) (hml : c.maxLocals = 20) (hown : s.vm.findClass "com/example/pesquisa/pesquisa/MeasureScorePinLaw" = some m.cls) (e0 : T0.heap = h0) (hc307 : (2 : Int32) < i6) (hc314 : (10 : Int32) < i9) :
    ∃ (T' : State), Stand p l e R s m args below meth c T' locs cells slots ∧ T'.heap = h0 ∧
      ∀ target, Steps p.tables e below (T'.setTop (mkF m 323 #[s0, s1, s2, s3, s4, s5, .val (.int i6), s7, s8, .val (.int i9), s10, s11, s12, s13, s14, s15, s16, s17, s18, .unset] [])) target → Steps p.tables e below (T0.setTop (mkF m 304 #[s0, s1, s2, s3, s4, s5, .val (.int i6), s7, s8, .val (.int i9), s10, s11, s12, s13, s14, s15, s16, s17, s18, .unset] [])) target := by

  refine ⟨T0, X0, e0, fun target kt => ?_⟩
  show Steps p.tables e below (T0.setTop (mkF m 304 #[s0, s1, s2, s3, s4, s5, .val (.int i6), s7, s8, .val (.int i9), s10, s11, s12, s13, s14, s15, s16, s17, s18, .unset] [])) _
  refine XS.iload X0.here hx rfl (hb hby at_304) rfl ?_
  show Steps p.tables e below (T0.setTop (mkF m 306 #[s0, s1, s2, s3, s4, s5, .val (.int i6), s7, s8, .val (.int i9), s10, s11, s12, s13, s14, s15, s16, s17, s18, .unset] [(.int i6)])) _
  refine XS.iconst X0.here hx rfl (hb hby at_306) ?_
  show Steps p.tables e below (T0.setTop (mkF m 307 #[s0, s1, s2, s3, s4, s5, .val (.int i6), s7, s8, .val (.int i9), s10, s11, s12, s13, s14, s15, s16, s17, s18, .unset] [(.int (2 : Int32)), (.int i6)])) _
  refine XS.icmpNo X0.here hx rfl (hb hby at_307) rfl (tlt hc307).2.2.2 ?_
  show Steps p.tables e below (T0.setTop (mkF m 310 #[s0, s1, s2, s3, s4, s5, .val (.int i6), s7, s8, .val (.int i9), s10, s11, s12, s13, s14, s15, s16, s17, s18, .unset] [])) _
  refine XS.iload X0.here hx rfl (hb hby at_310) rfl ?_
  show Steps p.tables e below (T0.setTop (mkF m 312 #[s0, s1, s2, s3, s4, s5, .val (.int i6), s7, s8, .val (.int i9), s10, s11, s12, s13, s14, s15, s16, s17, s18, .unset] [(.int i9)])) _
  refine XS.bipush X0.here hx rfl (hb hby at_312) ?_
  show Steps p.tables e below (T0.setTop (mkF m 314 #[s0, s1, s2, s3, s4, s5, .val (.int i6), s7, s8, .val (.int i9), s10, s11, s12, s13, s14, s15, s16, s17, s18, .unset] [(.int (10 : Int32)), (.int i9)])) _
  refine XS.icmpYes X0.here hx rfl (pc0 := 314) (pc' := 323) rfl (hb hby at_314) rfl (tlt hc314).2.2.1 (by decide) (by decide) ?_
  exact kt
set_option maxRecDepth 65536 in
set_option maxHeartbeats 40000000 in
theorem b304ff {p : Program} {l : Launch} {e : Env} {R : Room} {s : State} {m : MethodId} {args : Array Value} {below : List Frame} {meth : Method} {c : Code} {T0 : State} {locs : List Loc} {cells slots : Nat} {Z : State} {a0 : Array Value} {h0 : Heap} (s0 : Slot) (s1 : Slot) (s2 : Slot) (s3 : Slot) (s4 : Slot) (s5 : Slot) (i6 : Int32) (s7 : Slot) (s8 : Slot) (i9 : Int32) (s10 : Slot) (s11 : Slot) (s12 : Slot) (s13 : Slot) (s14 : Slot) (s15 : Slot) (s16 : Slot) (s17 : Slot) (i18 : Int32)
    (X0 : Stand p l e R s m args below meth c T0 locs cells slots) (hx : p.tables.exec = Jvm.exec) (hZ : Z.Warmed39 s.vm) (hw : ∀ d ∈ tables_1, d.before a0 Z = true) (hby : c.code = code) (hml : c.maxLocals = 20) (hown : s.vm.findClass "com/example/pesquisa/pesquisa/MeasureScorePinLaw" = some m.cls) (e0 : T0.heap = h0) (hc307 : (2 : Int32) < i6) (hc314 : ¬ ((10 : Int32) < i9)) :
    ∃ (T' : State), Stand p l e R s m args below meth c T' locs cells slots ∧ T'.heap = h0 ∧
      ∀ target, Steps p.tables e below (T'.setTop (mkF m 323 #[s0, s1, s2, s3, s4, s5, .val (.int i6), s7, s8, .val (.int i9), s10, s11, s12, s13, s14, s15, s16, s17, .val (.int (i18 + (1 : Int32))), .unset] [])) target → Steps p.tables e below (T0.setTop (mkF m 304 #[s0, s1, s2, s3, s4, s5, .val (.int i6), s7, s8, .val (.int i9), s10, s11, s12, s13, s14, s15, s16, s17, .val (.int i18), .unset] [])) target := by

  refine ⟨T0, X0, e0, fun target kt => ?_⟩
  show Steps p.tables e below (T0.setTop (mkF m 304 #[s0, s1, s2, s3, s4, s5, .val (.int i6), s7, s8, .val (.int i9), s10, s11, s12, s13, s14, s15, s16, s17, .val (.int i18), .unset] [])) _
  refine XS.iload X0.here hx rfl (hb hby at_304) rfl ?_
  show Steps p.tables e below (T0.setTop (mkF m 306 #[s0, s1, s2, s3, s4, s5, .val (.int i6), s7, s8, .val (.int i9), s10, s11, s12, s13, s14, s15, s16, s17, .val (.int i18), .unset] [(.int i6)])) _
  refine XS.iconst X0.here hx rfl (hb hby at_306) ?_
  show Steps p.tables e below (T0.setTop (mkF m 307 #[s0, s1, s2, s3, s4, s5, .val (.int i6), s7, s8, .val (.int i9), s10, s11, s12, s13, s14, s15, s16, s17, .val (.int i18), .unset] [(.int (2 : Int32)), (.int i6)])) _
  refine XS.icmpNo X0.here hx rfl (hb hby at_307) rfl (tlt hc307).2.2.2 ?_
  show Steps p.tables e below (T0.setTop (mkF m 310 #[s0, s1, s2, s3, s4, s5, .val (.int i6), s7, s8, .val (.int i9), s10, s11, s12, s13, s14, s15, s16, s17, .val (.int i18), .unset] [])) _
  refine XS.iload X0.here hx rfl (hb hby at_310) rfl ?_
  show Steps p.tables e below (T0.setTop (mkF m 312 #[s0, s1, s2, s3, s4, s5, .val (.int i6), s7, s8, .val (.int i9), s10, s11, s12, s13, s14, s15, s16, s17, .val (.int i18), .unset] [(.int i9)])) _
  refine XS.bipush X0.here hx rfl (hb hby at_312) ?_
  show Steps p.tables e below (T0.setTop (mkF m 314 #[s0, s1, s2, s3, s4, s5, .val (.int i6), s7, s8, .val (.int i9), s10, s11, s12, s13, s14, s15, s16, s17, .val (.int i18), .unset] [(.int (10 : Int32)), (.int i9)])) _
  refine XS.icmpNo X0.here hx rfl (hb hby at_314) rfl (flt hc314).2.2.1 ?_
  show Steps p.tables e below (T0.setTop (mkF m 317 #[s0, s1, s2, s3, s4, s5, .val (.int i6), s7, s8, .val (.int i9), s10, s11, s12, s13, s14, s15, s16, s17, .val (.int i18), .unset] [])) _
  refine XS.iload X0.here hx rfl (hb hby at_317) rfl ?_
  show Steps p.tables e below (T0.setTop (mkF m 319 #[s0, s1, s2, s3, s4, s5, .val (.int i6), s7, s8, .val (.int i9), s10, s11, s12, s13, s14, s15, s16, s17, .val (.int i18), .unset] [(.int i18)])) _
  refine XS.iconst X0.here hx rfl (hb hby at_319) ?_
  show Steps p.tables e below (T0.setTop (mkF m 320 #[s0, s1, s2, s3, s4, s5, .val (.int i6), s7, s8, .val (.int i9), s10, s11, s12, s13, s14, s15, s16, s17, .val (.int i18), .unset] [(.int (1 : Int32)), (.int i18)])) _
  refine XS.iadd X0.here hx rfl (hb hby at_320) rfl ?_
  show Steps p.tables e below (T0.setTop (mkF m 321 #[s0, s1, s2, s3, s4, s5, .val (.int i6), s7, s8, .val (.int i9), s10, s11, s12, s13, s14, s15, s16, s17, .val (.int i18), .unset] [(.int (i18 + (1 : Int32)))])) _
  refine XS.istore X0.here hx rfl (hb hby at_321) rfl (l' := #[s0, s1, s2, s3, s4, s5, .val (.int i6), s7, s8, .val (.int i9), s10, s11, s12, s13, s14, s15, s16, s17, .val (.int (i18 + (1 : Int32))), .unset]) rfl ?_
  exact kt
theorem b304 {p : Program} {l : Launch} {e : Env} {R : Room} {s : State} {m : MethodId} {args : Array Value} {below : List Frame} {meth : Method} {c : Code} {T0 : State} {locs : List Loc} {cells slots : Nat} {Z : State} {a0 : Array Value} {h0 : Heap} (s0 : Slot) (s1 : Slot) (s2 : Slot) (s3 : Slot) (s4 : Slot) (s5 : Slot) (i6 : Int32) (s7 : Slot) (s8 : Slot) (i9 : Int32) (s10 : Slot) (s11 : Slot) (s12 : Slot) (s13 : Slot) (s14 : Slot) (s15 : Slot) (s16 : Slot) (s17 : Slot) (i18 : Int32) (j18 : Int32) (X0 : Stand p l e R s m args below meth c T0 locs cells slots) (hx : p.tables.exec = Jvm.exec) (hZ : Z.Warmed39 s.vm) (hw : ∀ d ∈ tables_1, d.before a0 Z = true) (hby : c.code = code) (hml : c.maxLocals = 20) (hown : s.vm.findClass "com/example/pesquisa/pesquisa/MeasureScorePinLaw" = some m.cls) (e0 : T0.heap = h0) (hj : (if (2 : Int32) < i6 then (if (10 : Int32) < i9 then i18 else i18 + (1 : Int32)) else i18) = j18) :
    ∃ T' : State, Stand p l e R s m args below meth c T' locs cells slots ∧ T'.heap = h0 ∧
      ∀ target, Steps p.tables e below (T'.setTop (mkF m 323 #[s0, s1, s2, s3, s4, s5, .val (.int i6), s7, s8, .val (.int i9), s10, s11, s12, s13, s14, s15, s16, s17, .val (.int j18), .unset] [])) target → Steps p.tables e below (T0.setTop (mkF m 304 #[s0, s1, s2, s3, s4, s5, .val (.int i6), s7, s8, .val (.int i9), s10, s11, s12, s13, s14, s15, s16, s17, .val (.int i18), .unset] [])) target := by
  subst hj
  by_cases h : (2 : Int32) < i6
  · rw [if_pos h]
    by_cases h2 : (10 : Int32) < i9
    · rw [if_pos h2]; exact b304ft (a0 := a0) (s0) (s1) (s2) (s3) (s4) (s5) i6 (s7) (s8) i9 (s10) (s11) (s12) (s13) (s14) (s15) (s16) (s17) (.val (.int i18)) X0 hx hZ hw hby hml hown e0 h h2
    · rw [if_neg h2]; exact b304ff (a0 := a0) (s0) (s1) (s2) (s3) (s4) (s5) i6 (s7) (s8) i9 (s10) (s11) (s12) (s13) (s14) (s15) (s16) (s17) i18 X0 hx hZ hw hby hml hown e0 h h2
  · rw [if_neg h]; exact b304t (a0 := a0) (s0) (s1) (s2) (s3) (s4) (s5) i6 (s7) (s8) (.val (.int i9)) (s10) (s11) (s12) (s13) (s14) (s15) (s16) (s17) (.val (.int i18)) X0 hx hZ hw hby hml hown e0 h
set_option maxRecDepth 65536 in
set_option maxHeartbeats 40000000 in
theorem tl1_e {p : Program} {l : Launch} {e : Env} {R : Room} {s : State} {m : MethodId} {args : Array Value} {below : List Frame} {meth : Method} {c : Code} {T0 : State} {locs : List Loc} {cells slots : Nat} {Z : State} {a0 : Array Value} {h0 : Heap} (s0 : Slot) (s1 : Slot) (s2 : Slot) (s3 : Slot) (s4 : Slot) (s5 : Slot) (s6 : Slot) (s7 : Slot) (s8 : Slot) (s9 : Slot) (s10 : Slot) (s11 : Slot) (s12 : Slot) (s13 : Slot) (s14 : Slot) (s15 : Slot) (i18 : Int32) (r329 : UInt64)
    (X0 : Stand p l e R s m args below meth c T0 locs cells slots) (hx : p.tables.exec = Jvm.exec) (hZ : Z.Warmed39 s.vm) (hw : ∀ d ∈ tables_1, d.before a0 Z = true) (hby : c.code = code) (hml : c.maxLocals = 20) (hown : s.vm.findClass "com/example/pesquisa/pesquisa/MeasureScorePinLaw" = some m.cls) (e0 : T0.heap = h0) (hv329 : (FP.ddiv (FP.i2d i18) (4621819117588971520 : UInt64)) = r329) (hn329 : Jvm.Free.Fl.NoNaN64 (FP.ddiv (FP.i2d i18) (4621819117588971520 : UInt64))) :
    ∃ (T' : State), Stand p l e R s m args below meth c T' locs cells slots ∧ T'.heap = h0 ∧
      ∀ target, Steps p.tables e below (T'.setTop (mkF m 397 #[s0, s1, s2, s3, s4, s5, s6, s7, s8, s9, s10, s11, s12, s13, s14, s15, .val (.double r329), .second, .val (.int i18), .unset] [])) target → Steps p.tables e below (T0.setTop (mkF m 323 #[s0, s1, s2, s3, s4, s5, s6, s7, s8, s9, s10, s11, s12, s13, s14, s15, .unset, .unset, .val (.int i18), .unset] [])) target := by

  refine ⟨T0, X0, e0, fun target kt => ?_⟩
  show Steps p.tables e below (T0.setTop (mkF m 323 #[s0, s1, s2, s3, s4, s5, s6, s7, s8, s9, s10, s11, s12, s13, s14, s15, .unset, .unset, .val (.int i18), .unset] [])) _
  refine XS.iload X0.here hx rfl (hb hby at_323) rfl ?_
  show Steps p.tables e below (T0.setTop (mkF m 325 #[s0, s1, s2, s3, s4, s5, s6, s7, s8, s9, s10, s11, s12, s13, s14, s15, .unset, .unset, .val (.int i18), .unset] [(.int i18)])) _
  refine XS.i2dS X0.here hx rfl (hb hby at_325) rfl rfl ?_
  show Steps p.tables e below (T0.setTop (mkF m 326 #[s0, s1, s2, s3, s4, s5, s6, s7, s8, s9, s10, s11, s12, s13, s14, s15, .unset, .unset, .val (.int i18), .unset] [(.double (FP.i2d i18))])) _
  refine X0.ldc2DoubleC hx hown (mvT hZ (hw _ (List.mem_of_getElem? (i := 42) rfl))) (g := (mkF m 326 #[s0, s1, s2, s3, s4, s5, s6, s7, s8, s9, s10, s11, s12, s13, s14, s15, .unset, .unset, .val (.int i18), .unset] [(.double (FP.i2d i18))])) rfl (hb hby at_326) _ ?_
  show Steps p.tables e below (T0.setTop (mkF m 329 #[s0, s1, s2, s3, s4, s5, s6, s7, s8, s9, s10, s11, s12, s13, s14, s15, .unset, .unset, .val (.int i18), .unset] [(.double (4621819117588971520 : UInt64)), (.double (FP.i2d i18))])) _
  refine XS.ddivS X0.here hx rfl (hb hby at_329) rfl hn329 hv329 ?_
  show Steps p.tables e below (T0.setTop (mkF m 330 #[s0, s1, s2, s3, s4, s5, s6, s7, s8, s9, s10, s11, s12, s13, s14, s15, .unset, .unset, .val (.int i18), .unset] [(.double r329)])) _
  refine XS.dstore X0.here hx rfl (hb hby at_330) rfl (l' := #[s0, s1, s2, s3, s4, s5, s6, s7, s8, s9, s10, s11, s12, s13, s14, s15, .val (.double r329), .second, .val (.int i18), .unset]) rfl ?_
  show Steps p.tables e below (T0.setTop (mkF m 332 #[s0, s1, s2, s3, s4, s5, s6, s7, s8, s9, s10, s11, s12, s13, s14, s15, .val (.double r329), .second, .val (.int i18), .unset] [])) _
  refine XS.goto X0.here hx rfl (pc0 := 332) (pc' := 397) rfl (hb hby at_332) (by decide) (by decide) ?_
  exact kt
set_option maxRecDepth 65536 in
set_option maxHeartbeats 40000000 in
theorem tl2_t {p : Program} {l : Launch} {e : Env} {R : Room} {s : State} {m : MethodId} {args : Array Value} {below : List Frame} {meth : Method} {c : Code} {T0 : State} {locs : List Loc} {cells slots : Nat} {Z : State} {a0 : Array Value} {h0 : Heap} (s0 : Slot) (s1 : Slot) (s2 : Slot) (s3 : Slot) (s4 : Slot) (i5 : Int32) (i6 : Int32) (s7 : Slot) (s8 : Slot) (s9 : Slot) (s10 : Slot) (s11 : Slot) (s12 : Slot) (s13 : Slot) (s14 : Slot)
    (X0 : Stand p l e R s m args below meth c T0 locs cells slots) (hx : p.tables.exec = Jvm.exec) (hZ : Z.Warmed39 s.vm) (hw : ∀ d ∈ tables_1, d.before a0 Z = true) (hby : c.code = code) (hml : c.maxLocals = 20) (hown : s.vm.findClass "com/example/pesquisa/pesquisa/MeasureScorePinLaw" = some m.cls) (e0 : T0.heap = h0) (hc173 : ¬ ((0 : Int32) < i6)) (hc192 : ¬ (i5 = (0 : Int32))) (hc261 : ¬ (i5 = (1 : Int32))) (hc338 : i5 = (2 : Int32)) (hc343 : ¬ ((0 : Int32) < i6)) :
    ∃ (T' : State), Stand p l e R s m args below meth c T' locs cells slots ∧ T'.heap = h0 ∧
      ∀ target, Steps p.tables e below (T'.setTop (mkF m 397 #[s0, s1, s2, s3, s4, .val (.int i5), .val (.int i6), s7, s8, s9, s10, s11, s12, s13, s14, .val (.int (0 : Int32)), .val (.double FP.dconst0), .second, .unset, .unset] [])) target → Steps p.tables e below (T0.setTop (mkF m 171 #[s0, s1, s2, s3, s4, .val (.int i5), .val (.int i6), s7, s8, s9, s10, s11, s12, s13, s14, .unset, .unset, .unset, .unset, .unset] [])) target := by

  refine ⟨T0, X0, e0, fun target kt => ?_⟩
  show Steps p.tables e below (T0.setTop (mkF m 171 #[s0, s1, s2, s3, s4, .val (.int i5), .val (.int i6), s7, s8, s9, s10, s11, s12, s13, s14, .unset, .unset, .unset, .unset, .unset] [])) _
  refine XS.iload X0.here hx rfl (hb hby at_171) rfl ?_
  show Steps p.tables e below (T0.setTop (mkF m 173 #[s0, s1, s2, s3, s4, .val (.int i5), .val (.int i6), s7, s8, s9, s10, s11, s12, s13, s14, .unset, .unset, .unset, .unset, .unset] [(.int i6)])) _
  refine XS.ifYes X0.here hx rfl (pc0 := 173) (pc' := 187) rfl (hb hby at_173) rfl ((if0 _ _).trans (flt hc173).2.2.2) (by decide) (by decide) ?_
  show Steps p.tables e below (T0.setTop (mkF m 187 #[s0, s1, s2, s3, s4, .val (.int i5), .val (.int i6), s7, s8, s9, s10, s11, s12, s13, s14, .unset, .unset, .unset, .unset, .unset] [])) _
  refine XS.iconst X0.here hx rfl (hb hby at_187) ?_
  show Steps p.tables e below (T0.setTop (mkF m 188 #[s0, s1, s2, s3, s4, .val (.int i5), .val (.int i6), s7, s8, s9, s10, s11, s12, s13, s14, .unset, .unset, .unset, .unset, .unset] [(.int (0 : Int32))])) _
  refine XS.istore X0.here hx rfl (hb hby at_188) rfl (l' := #[s0, s1, s2, s3, s4, .val (.int i5), .val (.int i6), s7, s8, s9, s10, s11, s12, s13, s14, .val (.int (0 : Int32)), .unset, .unset, .unset, .unset]) rfl ?_
  show Steps p.tables e below (T0.setTop (mkF m 190 #[s0, s1, s2, s3, s4, .val (.int i5), .val (.int i6), s7, s8, s9, s10, s11, s12, s13, s14, .val (.int (0 : Int32)), .unset, .unset, .unset, .unset] [])) _
  refine XS.iload X0.here hx rfl (hb hby at_190) rfl ?_
  show Steps p.tables e below (T0.setTop (mkF m 192 #[s0, s1, s2, s3, s4, .val (.int i5), .val (.int i6), s7, s8, s9, s10, s11, s12, s13, s14, .val (.int (0 : Int32)), .unset, .unset, .unset, .unset] [(.int i5)])) _
  refine XS.ifYes X0.here hx rfl (pc0 := 192) (pc' := 258) rfl (hb hby at_192) rfl ((if0 _ _).trans (feq hc192).2) (by decide) (by decide) ?_
  show Steps p.tables e below (T0.setTop (mkF m 258 #[s0, s1, s2, s3, s4, .val (.int i5), .val (.int i6), s7, s8, s9, s10, s11, s12, s13, s14, .val (.int (0 : Int32)), .unset, .unset, .unset, .unset] [])) _
  refine XS.iload X0.here hx rfl (hb hby at_258) rfl ?_
  show Steps p.tables e below (T0.setTop (mkF m 260 #[s0, s1, s2, s3, s4, .val (.int i5), .val (.int i6), s7, s8, s9, s10, s11, s12, s13, s14, .val (.int (0 : Int32)), .unset, .unset, .unset, .unset] [(.int i5)])) _
  refine XS.iconst X0.here hx rfl (hb hby at_260) ?_
  show Steps p.tables e below (T0.setTop (mkF m 261 #[s0, s1, s2, s3, s4, .val (.int i5), .val (.int i6), s7, s8, s9, s10, s11, s12, s13, s14, .val (.int (0 : Int32)), .unset, .unset, .unset, .unset] [(.int (1 : Int32)), (.int i5)])) _
  refine XS.icmpYes X0.here hx rfl (pc0 := 261) (pc' := 335) rfl (hb hby at_261) rfl (feq hc261).2 (by decide) (by decide) ?_
  show Steps p.tables e below (T0.setTop (mkF m 335 #[s0, s1, s2, s3, s4, .val (.int i5), .val (.int i6), s7, s8, s9, s10, s11, s12, s13, s14, .val (.int (0 : Int32)), .unset, .unset, .unset, .unset] [])) _
  refine XS.iload X0.here hx rfl (hb hby at_335) rfl ?_
  show Steps p.tables e below (T0.setTop (mkF m 337 #[s0, s1, s2, s3, s4, .val (.int i5), .val (.int i6), s7, s8, s9, s10, s11, s12, s13, s14, .val (.int (0 : Int32)), .unset, .unset, .unset, .unset] [(.int i5)])) _
  refine XS.iconst X0.here hx rfl (hb hby at_337) ?_
  show Steps p.tables e below (T0.setTop (mkF m 338 #[s0, s1, s2, s3, s4, .val (.int i5), .val (.int i6), s7, s8, s9, s10, s11, s12, s13, s14, .val (.int (0 : Int32)), .unset, .unset, .unset, .unset] [(.int (2 : Int32)), (.int i5)])) _
  refine XS.icmpNo X0.here hx rfl (hb hby at_338) rfl (teq hc338).2 ?_
  show Steps p.tables e below (T0.setTop (mkF m 341 #[s0, s1, s2, s3, s4, .val (.int i5), .val (.int i6), s7, s8, s9, s10, s11, s12, s13, s14, .val (.int (0 : Int32)), .unset, .unset, .unset, .unset] [])) _
  refine XS.iload X0.here hx rfl (hb hby at_341) rfl ?_
  show Steps p.tables e below (T0.setTop (mkF m 343 #[s0, s1, s2, s3, s4, .val (.int i5), .val (.int i6), s7, s8, s9, s10, s11, s12, s13, s14, .val (.int (0 : Int32)), .unset, .unset, .unset, .unset] [(.int i6)])) _
  refine XS.ifYes X0.here hx rfl (pc0 := 343) (pc' := 354) rfl (hb hby at_343) rfl ((if0 _ _).trans (flt hc343).2.2.2) (by decide) (by decide) ?_
  show Steps p.tables e below (T0.setTop (mkF m 354 #[s0, s1, s2, s3, s4, .val (.int i5), .val (.int i6), s7, s8, s9, s10, s11, s12, s13, s14, .val (.int (0 : Int32)), .unset, .unset, .unset, .unset] [])) _
  refine XS.dconst0 X0.here hx rfl (hb hby at_354) rfl ?_
  show Steps p.tables e below (T0.setTop (mkF m 355 #[s0, s1, s2, s3, s4, .val (.int i5), .val (.int i6), s7, s8, s9, s10, s11, s12, s13, s14, .val (.int (0 : Int32)), .unset, .unset, .unset, .unset] [(.double FP.dconst0)])) _
  refine XS.dstore X0.here hx rfl (hb hby at_355) rfl (l' := #[s0, s1, s2, s3, s4, .val (.int i5), .val (.int i6), s7, s8, s9, s10, s11, s12, s13, s14, .val (.int (0 : Int32)), .val (.double FP.dconst0), .second, .unset, .unset]) rfl ?_
  show Steps p.tables e below (T0.setTop (mkF m 357 #[s0, s1, s2, s3, s4, .val (.int i5), .val (.int i6), s7, s8, s9, s10, s11, s12, s13, s14, .val (.int (0 : Int32)), .val (.double FP.dconst0), .second, .unset, .unset] [])) _
  refine XS.goto X0.here hx rfl (pc0 := 357) (pc' := 397) rfl (hb hby at_357) (by decide) (by decide) ?_
  exact kt
set_option maxRecDepth 65536 in
set_option maxHeartbeats 40000000 in
theorem tl2_f {p : Program} {l : Launch} {e : Env} {R : Room} {s : State} {m : MethodId} {args : Array Value} {below : List Frame} {meth : Method} {c : Code} {T0 : State} {locs : List Loc} {cells slots : Nat} {Z : State} {a0 : Array Value} {h0 : Heap} (s0 : Slot) (s1 : Slot) (s2 : Slot) (s3 : Slot) (s4 : Slot) (i5 : Int32) (i6 : Int32) (i7 : Int32) (s8 : Slot) (s9 : Slot) (s10 : Slot) (s11 : Slot) (s12 : Slot) (s13 : Slot) (s14 : Slot) (r350 : UInt64)
    (X0 : Stand p l e R s m args below meth c T0 locs cells slots) (hx : p.tables.exec = Jvm.exec) (hZ : Z.Warmed39 s.vm) (hw : ∀ d ∈ tables_1, d.before a0 Z = true) (hby : c.code = code) (hml : c.maxLocals = 20) (hown : s.vm.findClass "com/example/pesquisa/pesquisa/MeasureScorePinLaw" = some m.cls) (e0 : T0.heap = h0) (hc173 : (0 : Int32) < i6) (hc192 : ¬ (i5 = (0 : Int32))) (hc261 : ¬ (i5 = (1 : Int32))) (hc338 : i5 = (2 : Int32)) (hc343 : (0 : Int32) < i6) (hv350 : (FP.ddiv FP.dconst1 (FP.i2d i7)) = r350) (hn350 : Jvm.Free.Fl.NoNaN64 (FP.ddiv FP.dconst1 (FP.i2d i7))) :
    ∃ (T' : State), Stand p l e R s m args below meth c T' locs cells slots ∧ T'.heap = h0 ∧
      ∀ target, Steps p.tables e below (T'.setTop (mkF m 397 #[s0, s1, s2, s3, s4, .val (.int i5), .val (.int i6), .val (.int i7), s8, s9, s10, s11, s12, s13, s14, .val (.int (if if_icmp.holds .gt i7 (10 : Int32) = true then (0 : Int32) else 1)), .val (.double r350), .second, .unset, .unset] [])) target → Steps p.tables e below (T0.setTop (mkF m 171 #[s0, s1, s2, s3, s4, .val (.int i5), .val (.int i6), .val (.int i7), s8, s9, s10, s11, s12, s13, s14, .unset, .unset, .unset, .unset, .unset] [])) target := by

  refine ⟨T0, X0, e0, fun target kt => ?_⟩
  show Steps p.tables e below (T0.setTop (mkF m 171 #[s0, s1, s2, s3, s4, .val (.int i5), .val (.int i6), .val (.int i7), s8, s9, s10, s11, s12, s13, s14, .unset, .unset, .unset, .unset, .unset] [])) _
  refine XS.iload X0.here hx rfl (hb hby at_171) rfl ?_
  show Steps p.tables e below (T0.setTop (mkF m 173 #[s0, s1, s2, s3, s4, .val (.int i5), .val (.int i6), .val (.int i7), s8, s9, s10, s11, s12, s13, s14, .unset, .unset, .unset, .unset, .unset] [(.int i6)])) _
  refine XS.ifNo X0.here hx rfl (hb hby at_173) rfl ((if0 _ _).trans (tlt hc173).2.2.2) ?_
  show Steps p.tables e below (T0.setTop (mkF m 176 #[s0, s1, s2, s3, s4, .val (.int i5), .val (.int i6), .val (.int i7), s8, s9, s10, s11, s12, s13, s14, .unset, .unset, .unset, .unset, .unset] [])) _
  refine XS.iload X0.here hx rfl (hb hby at_176) rfl ?_
  show Steps p.tables e below (T0.setTop (mkF m 178 #[s0, s1, s2, s3, s4, .val (.int i5), .val (.int i6), .val (.int i7), s8, s9, s10, s11, s12, s13, s14, .unset, .unset, .unset, .unset, .unset] [(.int i7)])) _
  refine XS.bipush X0.here hx rfl (hb hby at_178) ?_
  show Steps p.tables e below (T0.setTop (mkF m 180 #[s0, s1, s2, s3, s4, .val (.int i5), .val (.int i6), .val (.int i7), s8, s9, s10, s11, s12, s13, s14, .unset, .unset, .unset, .unset, .unset] [(.int (10 : Int32)), (.int i7)])) _
  refine own_selI X0.here hx (hb hby at_180) (hb hby at_183) (hb hby at_184) (hb hby at_187) ?_
  show Steps p.tables e below (T0.setTop (mkF m 188 #[s0, s1, s2, s3, s4, .val (.int i5), .val (.int i6), .val (.int i7), s8, s9, s10, s11, s12, s13, s14, .unset, .unset, .unset, .unset, .unset] [(.int (if if_icmp.holds .gt i7 (10 : Int32) = true then (0 : Int32) else 1))])) _
  refine XS.istore X0.here hx rfl (hb hby at_188) rfl (l' := #[s0, s1, s2, s3, s4, .val (.int i5), .val (.int i6), .val (.int i7), s8, s9, s10, s11, s12, s13, s14, .val (.int (if if_icmp.holds .gt i7 (10 : Int32) = true then (0 : Int32) else 1)), .unset, .unset, .unset, .unset]) rfl ?_
  show Steps p.tables e below (T0.setTop (mkF m 190 #[s0, s1, s2, s3, s4, .val (.int i5), .val (.int i6), .val (.int i7), s8, s9, s10, s11, s12, s13, s14, .val (.int (if if_icmp.holds .gt i7 (10 : Int32) = true then (0 : Int32) else 1)), .unset, .unset, .unset, .unset] [])) _
  refine XS.iload X0.here hx rfl (hb hby at_190) rfl ?_
  show Steps p.tables e below (T0.setTop (mkF m 192 #[s0, s1, s2, s3, s4, .val (.int i5), .val (.int i6), .val (.int i7), s8, s9, s10, s11, s12, s13, s14, .val (.int (if if_icmp.holds .gt i7 (10 : Int32) = true then (0 : Int32) else 1)), .unset, .unset, .unset, .unset] [(.int i5)])) _
  refine XS.ifYes X0.here hx rfl (pc0 := 192) (pc' := 258) rfl (hb hby at_192) rfl ((if0 _ _).trans (feq hc192).2) (by decide) (by decide) ?_
  show Steps p.tables e below (T0.setTop (mkF m 258 #[s0, s1, s2, s3, s4, .val (.int i5), .val (.int i6), .val (.int i7), s8, s9, s10, s11, s12, s13, s14, .val (.int (if if_icmp.holds .gt i7 (10 : Int32) = true then (0 : Int32) else 1)), .unset, .unset, .unset, .unset] [])) _
  refine XS.iload X0.here hx rfl (hb hby at_258) rfl ?_
  show Steps p.tables e below (T0.setTop (mkF m 260 #[s0, s1, s2, s3, s4, .val (.int i5), .val (.int i6), .val (.int i7), s8, s9, s10, s11, s12, s13, s14, .val (.int (if if_icmp.holds .gt i7 (10 : Int32) = true then (0 : Int32) else 1)), .unset, .unset, .unset, .unset] [(.int i5)])) _
  refine XS.iconst X0.here hx rfl (hb hby at_260) ?_
  show Steps p.tables e below (T0.setTop (mkF m 261 #[s0, s1, s2, s3, s4, .val (.int i5), .val (.int i6), .val (.int i7), s8, s9, s10, s11, s12, s13, s14, .val (.int (if if_icmp.holds .gt i7 (10 : Int32) = true then (0 : Int32) else 1)), .unset, .unset, .unset, .unset] [(.int (1 : Int32)), (.int i5)])) _
  refine XS.icmpYes X0.here hx rfl (pc0 := 261) (pc' := 335) rfl (hb hby at_261) rfl (feq hc261).2 (by decide) (by decide) ?_
  show Steps p.tables e below (T0.setTop (mkF m 335 #[s0, s1, s2, s3, s4, .val (.int i5), .val (.int i6), .val (.int i7), s8, s9, s10, s11, s12, s13, s14, .val (.int (if if_icmp.holds .gt i7 (10 : Int32) = true then (0 : Int32) else 1)), .unset, .unset, .unset, .unset] [])) _
  refine XS.iload X0.here hx rfl (hb hby at_335) rfl ?_
  show Steps p.tables e below (T0.setTop (mkF m 337 #[s0, s1, s2, s3, s4, .val (.int i5), .val (.int i6), .val (.int i7), s8, s9, s10, s11, s12, s13, s14, .val (.int (if if_icmp.holds .gt i7 (10 : Int32) = true then (0 : Int32) else 1)), .unset, .unset, .unset, .unset] [(.int i5)])) _
  refine XS.iconst X0.here hx rfl (hb hby at_337) ?_
  show Steps p.tables e below (T0.setTop (mkF m 338 #[s0, s1, s2, s3, s4, .val (.int i5), .val (.int i6), .val (.int i7), s8, s9, s10, s11, s12, s13, s14, .val (.int (if if_icmp.holds .gt i7 (10 : Int32) = true then (0 : Int32) else 1)), .unset, .unset, .unset, .unset] [(.int (2 : Int32)), (.int i5)])) _
  refine XS.icmpNo X0.here hx rfl (hb hby at_338) rfl (teq hc338).2 ?_
  show Steps p.tables e below (T0.setTop (mkF m 341 #[s0, s1, s2, s3, s4, .val (.int i5), .val (.int i6), .val (.int i7), s8, s9, s10, s11, s12, s13, s14, .val (.int (if if_icmp.holds .gt i7 (10 : Int32) = true then (0 : Int32) else 1)), .unset, .unset, .unset, .unset] [])) _
  refine XS.iload X0.here hx rfl (hb hby at_341) rfl ?_
  show Steps p.tables e below (T0.setTop (mkF m 343 #[s0, s1, s2, s3, s4, .val (.int i5), .val (.int i6), .val (.int i7), s8, s9, s10, s11, s12, s13, s14, .val (.int (if if_icmp.holds .gt i7 (10 : Int32) = true then (0 : Int32) else 1)), .unset, .unset, .unset, .unset] [(.int i6)])) _
  refine XS.ifNo X0.here hx rfl (hb hby at_343) rfl ((if0 _ _).trans (tlt hc343).2.2.2) ?_
  show Steps p.tables e below (T0.setTop (mkF m 346 #[s0, s1, s2, s3, s4, .val (.int i5), .val (.int i6), .val (.int i7), s8, s9, s10, s11, s12, s13, s14, .val (.int (if if_icmp.holds .gt i7 (10 : Int32) = true then (0 : Int32) else 1)), .unset, .unset, .unset, .unset] [])) _
  refine XS.dconst1 X0.here hx rfl (hb hby at_346) rfl ?_
  show Steps p.tables e below (T0.setTop (mkF m 347 #[s0, s1, s2, s3, s4, .val (.int i5), .val (.int i6), .val (.int i7), s8, s9, s10, s11, s12, s13, s14, .val (.int (if if_icmp.holds .gt i7 (10 : Int32) = true then (0 : Int32) else 1)), .unset, .unset, .unset, .unset] [(.double FP.dconst1)])) _
  refine XS.iload X0.here hx rfl (hb hby at_347) rfl ?_
  show Steps p.tables e below (T0.setTop (mkF m 349 #[s0, s1, s2, s3, s4, .val (.int i5), .val (.int i6), .val (.int i7), s8, s9, s10, s11, s12, s13, s14, .val (.int (if if_icmp.holds .gt i7 (10 : Int32) = true then (0 : Int32) else 1)), .unset, .unset, .unset, .unset] [(.int i7), (.double FP.dconst1)])) _
  refine XS.i2dS X0.here hx rfl (hb hby at_349) rfl rfl ?_
  show Steps p.tables e below (T0.setTop (mkF m 350 #[s0, s1, s2, s3, s4, .val (.int i5), .val (.int i6), .val (.int i7), s8, s9, s10, s11, s12, s13, s14, .val (.int (if if_icmp.holds .gt i7 (10 : Int32) = true then (0 : Int32) else 1)), .unset, .unset, .unset, .unset] [(.double (FP.i2d i7)), (.double FP.dconst1)])) _
  refine XS.ddivS X0.here hx rfl (hb hby at_350) rfl hn350 hv350 ?_
  show Steps p.tables e below (T0.setTop (mkF m 351 #[s0, s1, s2, s3, s4, .val (.int i5), .val (.int i6), .val (.int i7), s8, s9, s10, s11, s12, s13, s14, .val (.int (if if_icmp.holds .gt i7 (10 : Int32) = true then (0 : Int32) else 1)), .unset, .unset, .unset, .unset] [(.double r350)])) _
  refine XS.goto X0.here hx rfl (pc0 := 351) (pc' := 355) rfl (hb hby at_351) (by decide) (by decide) ?_
  show Steps p.tables e below (T0.setTop (mkF m 355 #[s0, s1, s2, s3, s4, .val (.int i5), .val (.int i6), .val (.int i7), s8, s9, s10, s11, s12, s13, s14, .val (.int (if if_icmp.holds .gt i7 (10 : Int32) = true then (0 : Int32) else 1)), .unset, .unset, .unset, .unset] [(.double r350)])) _
  refine XS.dstore X0.here hx rfl (hb hby at_355) rfl (l' := #[s0, s1, s2, s3, s4, .val (.int i5), .val (.int i6), .val (.int i7), s8, s9, s10, s11, s12, s13, s14, .val (.int (if if_icmp.holds .gt i7 (10 : Int32) = true then (0 : Int32) else 1)), .val (.double r350), .second, .unset, .unset]) rfl ?_
  show Steps p.tables e below (T0.setTop (mkF m 357 #[s0, s1, s2, s3, s4, .val (.int i5), .val (.int i6), .val (.int i7), s8, s9, s10, s11, s12, s13, s14, .val (.int (if if_icmp.holds .gt i7 (10 : Int32) = true then (0 : Int32) else 1)), .val (.double r350), .second, .unset, .unset] [])) _
  refine XS.goto X0.here hx rfl (pc0 := 357) (pc' := 397) rfl (hb hby at_357) (by decide) (by decide) ?_
  exact kt
set_option maxRecDepth 65536 in
set_option maxHeartbeats 40000000 in
theorem tl3_t {p : Program} {l : Launch} {e : Env} {R : Room} {s : State} {m : MethodId} {args : Array Value} {below : List Frame} {meth : Method} {c : Code} {T0 : State} {locs : List Loc} {cells slots : Nat} {Z : State} {a0 : Array Value} {h0 : Heap} (s0 : Slot) (s1 : Slot) (s2 : Slot) (s3 : Slot) (s4 : Slot) (i5 : Int32) (i6 : Int32) (s7 : Slot) (s8 : Slot) (s9 : Slot) (s10 : Slot) (s11 : Slot) (s12 : Slot) (s13 : Slot) (s14 : Slot)
    (X0 : Stand p l e R s m args below meth c T0 locs cells slots) (hx : p.tables.exec = Jvm.exec) (hZ : Z.Warmed39 s.vm) (hw : ∀ d ∈ tables_1, d.before a0 Z = true) (hby : c.code = code) (hml : c.maxLocals = 20) (hown : s.vm.findClass "com/example/pesquisa/pesquisa/MeasureScorePinLaw" = some m.cls) (e0 : T0.heap = h0) (hc173 : ¬ ((0 : Int32) < i6)) (hc192 : ¬ (i5 = (0 : Int32))) (hc261 : ¬ (i5 = (1 : Int32))) (hc338 : ¬ (i5 = (2 : Int32))) (hc363 : i5 = (3 : Int32)) :
    ∃ (T' : State), Stand p l e R s m args below meth c T' locs cells slots ∧ T'.heap = h0 ∧
      ∀ target, Steps p.tables e below (T'.setTop (mkF m 397 #[s0, s1, s2, s3, s4, .val (.int i5), .val (.int i6), s7, s8, s9, s10, s11, s12, s13, s14, .val (.int (0 : Int32)), .val (.double FP.dconst0), .second, .unset, .unset] [])) target → Steps p.tables e below (T0.setTop (mkF m 171 #[s0, s1, s2, s3, s4, .val (.int i5), .val (.int i6), s7, s8, s9, s10, s11, s12, s13, s14, .unset, .unset, .unset, .unset, .unset] [])) target := by

  refine ⟨T0, X0, e0, fun target kt => ?_⟩
  show Steps p.tables e below (T0.setTop (mkF m 171 #[s0, s1, s2, s3, s4, .val (.int i5), .val (.int i6), s7, s8, s9, s10, s11, s12, s13, s14, .unset, .unset, .unset, .unset, .unset] [])) _
  refine XS.iload X0.here hx rfl (hb hby at_171) rfl ?_
  show Steps p.tables e below (T0.setTop (mkF m 173 #[s0, s1, s2, s3, s4, .val (.int i5), .val (.int i6), s7, s8, s9, s10, s11, s12, s13, s14, .unset, .unset, .unset, .unset, .unset] [(.int i6)])) _
  refine XS.ifYes X0.here hx rfl (pc0 := 173) (pc' := 187) rfl (hb hby at_173) rfl ((if0 _ _).trans (flt hc173).2.2.2) (by decide) (by decide) ?_
  show Steps p.tables e below (T0.setTop (mkF m 187 #[s0, s1, s2, s3, s4, .val (.int i5), .val (.int i6), s7, s8, s9, s10, s11, s12, s13, s14, .unset, .unset, .unset, .unset, .unset] [])) _
  refine XS.iconst X0.here hx rfl (hb hby at_187) ?_
  show Steps p.tables e below (T0.setTop (mkF m 188 #[s0, s1, s2, s3, s4, .val (.int i5), .val (.int i6), s7, s8, s9, s10, s11, s12, s13, s14, .unset, .unset, .unset, .unset, .unset] [(.int (0 : Int32))])) _
  refine XS.istore X0.here hx rfl (hb hby at_188) rfl (l' := #[s0, s1, s2, s3, s4, .val (.int i5), .val (.int i6), s7, s8, s9, s10, s11, s12, s13, s14, .val (.int (0 : Int32)), .unset, .unset, .unset, .unset]) rfl ?_
  show Steps p.tables e below (T0.setTop (mkF m 190 #[s0, s1, s2, s3, s4, .val (.int i5), .val (.int i6), s7, s8, s9, s10, s11, s12, s13, s14, .val (.int (0 : Int32)), .unset, .unset, .unset, .unset] [])) _
  refine XS.iload X0.here hx rfl (hb hby at_190) rfl ?_
  show Steps p.tables e below (T0.setTop (mkF m 192 #[s0, s1, s2, s3, s4, .val (.int i5), .val (.int i6), s7, s8, s9, s10, s11, s12, s13, s14, .val (.int (0 : Int32)), .unset, .unset, .unset, .unset] [(.int i5)])) _
  refine XS.ifYes X0.here hx rfl (pc0 := 192) (pc' := 258) rfl (hb hby at_192) rfl ((if0 _ _).trans (feq hc192).2) (by decide) (by decide) ?_
  show Steps p.tables e below (T0.setTop (mkF m 258 #[s0, s1, s2, s3, s4, .val (.int i5), .val (.int i6), s7, s8, s9, s10, s11, s12, s13, s14, .val (.int (0 : Int32)), .unset, .unset, .unset, .unset] [])) _
  refine XS.iload X0.here hx rfl (hb hby at_258) rfl ?_
  show Steps p.tables e below (T0.setTop (mkF m 260 #[s0, s1, s2, s3, s4, .val (.int i5), .val (.int i6), s7, s8, s9, s10, s11, s12, s13, s14, .val (.int (0 : Int32)), .unset, .unset, .unset, .unset] [(.int i5)])) _
  refine XS.iconst X0.here hx rfl (hb hby at_260) ?_
  show Steps p.tables e below (T0.setTop (mkF m 261 #[s0, s1, s2, s3, s4, .val (.int i5), .val (.int i6), s7, s8, s9, s10, s11, s12, s13, s14, .val (.int (0 : Int32)), .unset, .unset, .unset, .unset] [(.int (1 : Int32)), (.int i5)])) _
  refine XS.icmpYes X0.here hx rfl (pc0 := 261) (pc' := 335) rfl (hb hby at_261) rfl (feq hc261).2 (by decide) (by decide) ?_
  show Steps p.tables e below (T0.setTop (mkF m 335 #[s0, s1, s2, s3, s4, .val (.int i5), .val (.int i6), s7, s8, s9, s10, s11, s12, s13, s14, .val (.int (0 : Int32)), .unset, .unset, .unset, .unset] [])) _
  refine XS.iload X0.here hx rfl (hb hby at_335) rfl ?_
  show Steps p.tables e below (T0.setTop (mkF m 337 #[s0, s1, s2, s3, s4, .val (.int i5), .val (.int i6), s7, s8, s9, s10, s11, s12, s13, s14, .val (.int (0 : Int32)), .unset, .unset, .unset, .unset] [(.int i5)])) _
  refine XS.iconst X0.here hx rfl (hb hby at_337) ?_
  show Steps p.tables e below (T0.setTop (mkF m 338 #[s0, s1, s2, s3, s4, .val (.int i5), .val (.int i6), s7, s8, s9, s10, s11, s12, s13, s14, .val (.int (0 : Int32)), .unset, .unset, .unset, .unset] [(.int (2 : Int32)), (.int i5)])) _
  refine XS.icmpYes X0.here hx rfl (pc0 := 338) (pc' := 360) rfl (hb hby at_338) rfl (feq hc338).2 (by decide) (by decide) ?_
  show Steps p.tables e below (T0.setTop (mkF m 360 #[s0, s1, s2, s3, s4, .val (.int i5), .val (.int i6), s7, s8, s9, s10, s11, s12, s13, s14, .val (.int (0 : Int32)), .unset, .unset, .unset, .unset] [])) _
  refine XS.iload X0.here hx rfl (hb hby at_360) rfl ?_
  show Steps p.tables e below (T0.setTop (mkF m 362 #[s0, s1, s2, s3, s4, .val (.int i5), .val (.int i6), s7, s8, s9, s10, s11, s12, s13, s14, .val (.int (0 : Int32)), .unset, .unset, .unset, .unset] [(.int i5)])) _
  refine XS.iconst X0.here hx rfl (hb hby at_362) ?_
  show Steps p.tables e below (T0.setTop (mkF m 363 #[s0, s1, s2, s3, s4, .val (.int i5), .val (.int i6), s7, s8, s9, s10, s11, s12, s13, s14, .val (.int (0 : Int32)), .unset, .unset, .unset, .unset] [(.int (3 : Int32)), (.int i5)])) _
  refine XS.icmpNo X0.here hx rfl (hb hby at_363) rfl (teq hc363).2 ?_
  show Steps p.tables e below (T0.setTop (mkF m 366 #[s0, s1, s2, s3, s4, .val (.int i5), .val (.int i6), s7, s8, s9, s10, s11, s12, s13, s14, .val (.int (0 : Int32)), .unset, .unset, .unset, .unset] [])) _
  refine XS.iload X0.here hx rfl (hb hby at_366) rfl ?_
  show Steps p.tables e below (T0.setTop (mkF m 368 #[s0, s1, s2, s3, s4, .val (.int i5), .val (.int i6), s7, s8, s9, s10, s11, s12, s13, s14, .val (.int (0 : Int32)), .unset, .unset, .unset, .unset] [(.int (0 : Int32))])) _
  refine XS.ifYes X0.here hx rfl (pc0 := 368) (pc' := 379) rfl (hb hby at_368) rfl ((if0 _ _).trans (teq (by decide : (0 : Int32) = (0 : Int32))).1) (by decide) (by decide) ?_
  show Steps p.tables e below (T0.setTop (mkF m 379 #[s0, s1, s2, s3, s4, .val (.int i5), .val (.int i6), s7, s8, s9, s10, s11, s12, s13, s14, .val (.int (0 : Int32)), .unset, .unset, .unset, .unset] [])) _
  refine XS.dconst0 X0.here hx rfl (hb hby at_379) rfl ?_
  show Steps p.tables e below (T0.setTop (mkF m 380 #[s0, s1, s2, s3, s4, .val (.int i5), .val (.int i6), s7, s8, s9, s10, s11, s12, s13, s14, .val (.int (0 : Int32)), .unset, .unset, .unset, .unset] [(.double FP.dconst0)])) _
  refine XS.dstore X0.here hx rfl (hb hby at_380) rfl (l' := #[s0, s1, s2, s3, s4, .val (.int i5), .val (.int i6), s7, s8, s9, s10, s11, s12, s13, s14, .val (.int (0 : Int32)), .val (.double FP.dconst0), .second, .unset, .unset]) rfl ?_
  show Steps p.tables e below (T0.setTop (mkF m 382 #[s0, s1, s2, s3, s4, .val (.int i5), .val (.int i6), s7, s8, s9, s10, s11, s12, s13, s14, .val (.int (0 : Int32)), .val (.double FP.dconst0), .second, .unset, .unset] [])) _
  refine XS.goto X0.here hx rfl (pc0 := 382) (pc' := 397) rfl (hb hby at_382) (by decide) (by decide) ?_
  exact kt
set_option maxRecDepth 65536 in
set_option maxHeartbeats 40000000 in
theorem tl4_t {p : Program} {l : Launch} {e : Env} {R : Room} {s : State} {m : MethodId} {args : Array Value} {below : List Frame} {meth : Method} {c : Code} {T0 : State} {locs : List Loc} {cells slots : Nat} {Z : State} {a0 : Array Value} {h0 : Heap} (s0 : Slot) (s1 : Slot) (s2 : Slot) (s3 : Slot) (s4 : Slot) (i5 : Int32) (i6 : Int32) (s7 : Slot) (s8 : Slot) (s9 : Slot) (s10 : Slot) (s11 : Slot) (s12 : Slot) (s13 : Slot) (s14 : Slot)
    (X0 : Stand p l e R s m args below meth c T0 locs cells slots) (hx : p.tables.exec = Jvm.exec) (hZ : Z.Warmed39 s.vm) (hw : ∀ d ∈ tables_1, d.before a0 Z = true) (hby : c.code = code) (hml : c.maxLocals = 20) (hown : s.vm.findClass "com/example/pesquisa/pesquisa/MeasureScorePinLaw" = some m.cls) (e0 : T0.heap = h0) (hc173 : ¬ ((0 : Int32) < i6)) (hc192 : ¬ (i5 = (0 : Int32))) (hc261 : ¬ (i5 = (1 : Int32))) (hc338 : ¬ (i5 = (2 : Int32))) (hc363 : ¬ (i5 = (3 : Int32))) :
    ∃ (T' : State), Stand p l e R s m args below meth c T' locs cells slots ∧ T'.heap = h0 ∧
      ∀ target, Steps p.tables e below (T'.setTop (mkF m 397 #[s0, s1, s2, s3, s4, .val (.int i5), .val (.int i6), s7, s8, s9, s10, s11, s12, s13, s14, .val (.int (0 : Int32)), .val (.double FP.dconst0), .second, .unset, .unset] [])) target → Steps p.tables e below (T0.setTop (mkF m 171 #[s0, s1, s2, s3, s4, .val (.int i5), .val (.int i6), s7, s8, s9, s10, s11, s12, s13, s14, .unset, .unset, .unset, .unset, .unset] [])) target := by

  refine ⟨T0, X0, e0, fun target kt => ?_⟩
  show Steps p.tables e below (T0.setTop (mkF m 171 #[s0, s1, s2, s3, s4, .val (.int i5), .val (.int i6), s7, s8, s9, s10, s11, s12, s13, s14, .unset, .unset, .unset, .unset, .unset] [])) _
  refine XS.iload X0.here hx rfl (hb hby at_171) rfl ?_
  show Steps p.tables e below (T0.setTop (mkF m 173 #[s0, s1, s2, s3, s4, .val (.int i5), .val (.int i6), s7, s8, s9, s10, s11, s12, s13, s14, .unset, .unset, .unset, .unset, .unset] [(.int i6)])) _
  refine XS.ifYes X0.here hx rfl (pc0 := 173) (pc' := 187) rfl (hb hby at_173) rfl ((if0 _ _).trans (flt hc173).2.2.2) (by decide) (by decide) ?_
  show Steps p.tables e below (T0.setTop (mkF m 187 #[s0, s1, s2, s3, s4, .val (.int i5), .val (.int i6), s7, s8, s9, s10, s11, s12, s13, s14, .unset, .unset, .unset, .unset, .unset] [])) _
  refine XS.iconst X0.here hx rfl (hb hby at_187) ?_
  show Steps p.tables e below (T0.setTop (mkF m 188 #[s0, s1, s2, s3, s4, .val (.int i5), .val (.int i6), s7, s8, s9, s10, s11, s12, s13, s14, .unset, .unset, .unset, .unset, .unset] [(.int (0 : Int32))])) _
  refine XS.istore X0.here hx rfl (hb hby at_188) rfl (l' := #[s0, s1, s2, s3, s4, .val (.int i5), .val (.int i6), s7, s8, s9, s10, s11, s12, s13, s14, .val (.int (0 : Int32)), .unset, .unset, .unset, .unset]) rfl ?_
  show Steps p.tables e below (T0.setTop (mkF m 190 #[s0, s1, s2, s3, s4, .val (.int i5), .val (.int i6), s7, s8, s9, s10, s11, s12, s13, s14, .val (.int (0 : Int32)), .unset, .unset, .unset, .unset] [])) _
  refine XS.iload X0.here hx rfl (hb hby at_190) rfl ?_
  show Steps p.tables e below (T0.setTop (mkF m 192 #[s0, s1, s2, s3, s4, .val (.int i5), .val (.int i6), s7, s8, s9, s10, s11, s12, s13, s14, .val (.int (0 : Int32)), .unset, .unset, .unset, .unset] [(.int i5)])) _
  refine XS.ifYes X0.here hx rfl (pc0 := 192) (pc' := 258) rfl (hb hby at_192) rfl ((if0 _ _).trans (feq hc192).2) (by decide) (by decide) ?_
  show Steps p.tables e below (T0.setTop (mkF m 258 #[s0, s1, s2, s3, s4, .val (.int i5), .val (.int i6), s7, s8, s9, s10, s11, s12, s13, s14, .val (.int (0 : Int32)), .unset, .unset, .unset, .unset] [])) _
  refine XS.iload X0.here hx rfl (hb hby at_258) rfl ?_
  show Steps p.tables e below (T0.setTop (mkF m 260 #[s0, s1, s2, s3, s4, .val (.int i5), .val (.int i6), s7, s8, s9, s10, s11, s12, s13, s14, .val (.int (0 : Int32)), .unset, .unset, .unset, .unset] [(.int i5)])) _
  refine XS.iconst X0.here hx rfl (hb hby at_260) ?_
  show Steps p.tables e below (T0.setTop (mkF m 261 #[s0, s1, s2, s3, s4, .val (.int i5), .val (.int i6), s7, s8, s9, s10, s11, s12, s13, s14, .val (.int (0 : Int32)), .unset, .unset, .unset, .unset] [(.int (1 : Int32)), (.int i5)])) _
  refine XS.icmpYes X0.here hx rfl (pc0 := 261) (pc' := 335) rfl (hb hby at_261) rfl (feq hc261).2 (by decide) (by decide) ?_
  show Steps p.tables e below (T0.setTop (mkF m 335 #[s0, s1, s2, s3, s4, .val (.int i5), .val (.int i6), s7, s8, s9, s10, s11, s12, s13, s14, .val (.int (0 : Int32)), .unset, .unset, .unset, .unset] [])) _
  refine XS.iload X0.here hx rfl (hb hby at_335) rfl ?_
  show Steps p.tables e below (T0.setTop (mkF m 337 #[s0, s1, s2, s3, s4, .val (.int i5), .val (.int i6), s7, s8, s9, s10, s11, s12, s13, s14, .val (.int (0 : Int32)), .unset, .unset, .unset, .unset] [(.int i5)])) _
  refine XS.iconst X0.here hx rfl (hb hby at_337) ?_
  show Steps p.tables e below (T0.setTop (mkF m 338 #[s0, s1, s2, s3, s4, .val (.int i5), .val (.int i6), s7, s8, s9, s10, s11, s12, s13, s14, .val (.int (0 : Int32)), .unset, .unset, .unset, .unset] [(.int (2 : Int32)), (.int i5)])) _
  refine XS.icmpYes X0.here hx rfl (pc0 := 338) (pc' := 360) rfl (hb hby at_338) rfl (feq hc338).2 (by decide) (by decide) ?_
  show Steps p.tables e below (T0.setTop (mkF m 360 #[s0, s1, s2, s3, s4, .val (.int i5), .val (.int i6), s7, s8, s9, s10, s11, s12, s13, s14, .val (.int (0 : Int32)), .unset, .unset, .unset, .unset] [])) _
  refine XS.iload X0.here hx rfl (hb hby at_360) rfl ?_
  show Steps p.tables e below (T0.setTop (mkF m 362 #[s0, s1, s2, s3, s4, .val (.int i5), .val (.int i6), s7, s8, s9, s10, s11, s12, s13, s14, .val (.int (0 : Int32)), .unset, .unset, .unset, .unset] [(.int i5)])) _
  refine XS.iconst X0.here hx rfl (hb hby at_362) ?_
  show Steps p.tables e below (T0.setTop (mkF m 363 #[s0, s1, s2, s3, s4, .val (.int i5), .val (.int i6), s7, s8, s9, s10, s11, s12, s13, s14, .val (.int (0 : Int32)), .unset, .unset, .unset, .unset] [(.int (3 : Int32)), (.int i5)])) _
  refine XS.icmpYes X0.here hx rfl (pc0 := 363) (pc' := 385) rfl (hb hby at_363) rfl (feq hc363).2 (by decide) (by decide) ?_
  show Steps p.tables e below (T0.setTop (mkF m 385 #[s0, s1, s2, s3, s4, .val (.int i5), .val (.int i6), s7, s8, s9, s10, s11, s12, s13, s14, .val (.int (0 : Int32)), .unset, .unset, .unset, .unset] [])) _
  refine XS.iload X0.here hx rfl (hb hby at_385) rfl ?_
  show Steps p.tables e below (T0.setTop (mkF m 387 #[s0, s1, s2, s3, s4, .val (.int i5), .val (.int i6), s7, s8, s9, s10, s11, s12, s13, s14, .val (.int (0 : Int32)), .unset, .unset, .unset, .unset] [(.int (0 : Int32))])) _
  refine XS.ifYes X0.here hx rfl (pc0 := 387) (pc' := 394) rfl (hb hby at_387) rfl ((if0 _ _).trans (teq (by decide : (0 : Int32) = (0 : Int32))).1) (by decide) (by decide) ?_
  show Steps p.tables e below (T0.setTop (mkF m 394 #[s0, s1, s2, s3, s4, .val (.int i5), .val (.int i6), s7, s8, s9, s10, s11, s12, s13, s14, .val (.int (0 : Int32)), .unset, .unset, .unset, .unset] [])) _
  refine XS.dconst0 X0.here hx rfl (hb hby at_394) rfl ?_
  show Steps p.tables e below (T0.setTop (mkF m 395 #[s0, s1, s2, s3, s4, .val (.int i5), .val (.int i6), s7, s8, s9, s10, s11, s12, s13, s14, .val (.int (0 : Int32)), .unset, .unset, .unset, .unset] [(.double FP.dconst0)])) _
  refine XS.dstore X0.here hx rfl (hb hby at_395) rfl (l' := #[s0, s1, s2, s3, s4, .val (.int i5), .val (.int i6), s7, s8, s9, s10, s11, s12, s13, s14, .val (.int (0 : Int32)), .val (.double FP.dconst0), .second, .unset, .unset]) rfl ?_
  exact kt
set_option maxRecDepth 65536 in
set_option maxHeartbeats 40000000 in
theorem tl3_ft {p : Program} {l : Launch} {e : Env} {R : Room} {s : State} {m : MethodId} {args : Array Value} {below : List Frame} {meth : Method} {c : Code} {T0 : State} {locs : List Loc} {cells slots : Nat} {Z : State} {a0 : Array Value} {h0 : Heap} (s0 : Slot) (s1 : Slot) (s2 : Slot) (s3 : Slot) (s4 : Slot) (i5 : Int32) (i6 : Int32) (i7 : Int32) (s8 : Slot) (s9 : Slot) (s10 : Slot) (s11 : Slot) (s12 : Slot) (s13 : Slot) (s14 : Slot)
    (X0 : Stand p l e R s m args below meth c T0 locs cells slots) (hx : p.tables.exec = Jvm.exec) (hZ : Z.Warmed39 s.vm) (hw : ∀ d ∈ tables_1, d.before a0 Z = true) (hby : c.code = code) (hml : c.maxLocals = 20) (hown : s.vm.findClass "com/example/pesquisa/pesquisa/MeasureScorePinLaw" = some m.cls) (e0 : T0.heap = h0) (hc173 : (0 : Int32) < i6) (hc180 : (10 : Int32) < i7) (hc192 : ¬ (i5 = (0 : Int32))) (hc261 : ¬ (i5 = (1 : Int32))) (hc338 : ¬ (i5 = (2 : Int32))) (hc363 : i5 = (3 : Int32)) :
    ∃ (T' : State), Stand p l e R s m args below meth c T' locs cells slots ∧ T'.heap = h0 ∧
      ∀ target, Steps p.tables e below (T'.setTop (mkF m 397 #[s0, s1, s2, s3, s4, .val (.int i5), .val (.int i6), .val (.int i7), s8, s9, s10, s11, s12, s13, s14, .val (.int (0 : Int32)), .val (.double FP.dconst0), .second, .unset, .unset] [])) target → Steps p.tables e below (T0.setTop (mkF m 171 #[s0, s1, s2, s3, s4, .val (.int i5), .val (.int i6), .val (.int i7), s8, s9, s10, s11, s12, s13, s14, .unset, .unset, .unset, .unset, .unset] [])) target := by

  refine ⟨T0, X0, e0, fun target kt => ?_⟩
  show Steps p.tables e below (T0.setTop (mkF m 171 #[s0, s1, s2, s3, s4, .val (.int i5), .val (.int i6), .val (.int i7), s8, s9, s10, s11, s12, s13, s14, .unset, .unset, .unset, .unset, .unset] [])) _
  refine XS.iload X0.here hx rfl (hb hby at_171) rfl ?_
  show Steps p.tables e below (T0.setTop (mkF m 173 #[s0, s1, s2, s3, s4, .val (.int i5), .val (.int i6), .val (.int i7), s8, s9, s10, s11, s12, s13, s14, .unset, .unset, .unset, .unset, .unset] [(.int i6)])) _
  refine XS.ifNo X0.here hx rfl (hb hby at_173) rfl ((if0 _ _).trans (tlt hc173).2.2.2) ?_
  show Steps p.tables e below (T0.setTop (mkF m 176 #[s0, s1, s2, s3, s4, .val (.int i5), .val (.int i6), .val (.int i7), s8, s9, s10, s11, s12, s13, s14, .unset, .unset, .unset, .unset, .unset] [])) _
  refine XS.iload X0.here hx rfl (hb hby at_176) rfl ?_
  show Steps p.tables e below (T0.setTop (mkF m 178 #[s0, s1, s2, s3, s4, .val (.int i5), .val (.int i6), .val (.int i7), s8, s9, s10, s11, s12, s13, s14, .unset, .unset, .unset, .unset, .unset] [(.int i7)])) _
  refine XS.bipush X0.here hx rfl (hb hby at_178) ?_
  show Steps p.tables e below (T0.setTop (mkF m 180 #[s0, s1, s2, s3, s4, .val (.int i5), .val (.int i6), .val (.int i7), s8, s9, s10, s11, s12, s13, s14, .unset, .unset, .unset, .unset, .unset] [(.int (10 : Int32)), (.int i7)])) _
  refine XS.icmpYes X0.here hx rfl (pc0 := 180) (pc' := 187) rfl (hb hby at_180) rfl (tlt hc180).2.2.1 (by decide) (by decide) ?_
  show Steps p.tables e below (T0.setTop (mkF m 187 #[s0, s1, s2, s3, s4, .val (.int i5), .val (.int i6), .val (.int i7), s8, s9, s10, s11, s12, s13, s14, .unset, .unset, .unset, .unset, .unset] [])) _
  refine XS.iconst X0.here hx rfl (hb hby at_187) ?_
  show Steps p.tables e below (T0.setTop (mkF m 188 #[s0, s1, s2, s3, s4, .val (.int i5), .val (.int i6), .val (.int i7), s8, s9, s10, s11, s12, s13, s14, .unset, .unset, .unset, .unset, .unset] [(.int (0 : Int32))])) _
  refine XS.istore X0.here hx rfl (hb hby at_188) rfl (l' := #[s0, s1, s2, s3, s4, .val (.int i5), .val (.int i6), .val (.int i7), s8, s9, s10, s11, s12, s13, s14, .val (.int (0 : Int32)), .unset, .unset, .unset, .unset]) rfl ?_
  show Steps p.tables e below (T0.setTop (mkF m 190 #[s0, s1, s2, s3, s4, .val (.int i5), .val (.int i6), .val (.int i7), s8, s9, s10, s11, s12, s13, s14, .val (.int (0 : Int32)), .unset, .unset, .unset, .unset] [])) _
  refine XS.iload X0.here hx rfl (hb hby at_190) rfl ?_
  show Steps p.tables e below (T0.setTop (mkF m 192 #[s0, s1, s2, s3, s4, .val (.int i5), .val (.int i6), .val (.int i7), s8, s9, s10, s11, s12, s13, s14, .val (.int (0 : Int32)), .unset, .unset, .unset, .unset] [(.int i5)])) _
  refine XS.ifYes X0.here hx rfl (pc0 := 192) (pc' := 258) rfl (hb hby at_192) rfl ((if0 _ _).trans (feq hc192).2) (by decide) (by decide) ?_
  show Steps p.tables e below (T0.setTop (mkF m 258 #[s0, s1, s2, s3, s4, .val (.int i5), .val (.int i6), .val (.int i7), s8, s9, s10, s11, s12, s13, s14, .val (.int (0 : Int32)), .unset, .unset, .unset, .unset] [])) _
  refine XS.iload X0.here hx rfl (hb hby at_258) rfl ?_
  show Steps p.tables e below (T0.setTop (mkF m 260 #[s0, s1, s2, s3, s4, .val (.int i5), .val (.int i6), .val (.int i7), s8, s9, s10, s11, s12, s13, s14, .val (.int (0 : Int32)), .unset, .unset, .unset, .unset] [(.int i5)])) _
  refine XS.iconst X0.here hx rfl (hb hby at_260) ?_
  show Steps p.tables e below (T0.setTop (mkF m 261 #[s0, s1, s2, s3, s4, .val (.int i5), .val (.int i6), .val (.int i7), s8, s9, s10, s11, s12, s13, s14, .val (.int (0 : Int32)), .unset, .unset, .unset, .unset] [(.int (1 : Int32)), (.int i5)])) _
  refine XS.icmpYes X0.here hx rfl (pc0 := 261) (pc' := 335) rfl (hb hby at_261) rfl (feq hc261).2 (by decide) (by decide) ?_
  show Steps p.tables e below (T0.setTop (mkF m 335 #[s0, s1, s2, s3, s4, .val (.int i5), .val (.int i6), .val (.int i7), s8, s9, s10, s11, s12, s13, s14, .val (.int (0 : Int32)), .unset, .unset, .unset, .unset] [])) _
  refine XS.iload X0.here hx rfl (hb hby at_335) rfl ?_
  show Steps p.tables e below (T0.setTop (mkF m 337 #[s0, s1, s2, s3, s4, .val (.int i5), .val (.int i6), .val (.int i7), s8, s9, s10, s11, s12, s13, s14, .val (.int (0 : Int32)), .unset, .unset, .unset, .unset] [(.int i5)])) _
  refine XS.iconst X0.here hx rfl (hb hby at_337) ?_
  show Steps p.tables e below (T0.setTop (mkF m 338 #[s0, s1, s2, s3, s4, .val (.int i5), .val (.int i6), .val (.int i7), s8, s9, s10, s11, s12, s13, s14, .val (.int (0 : Int32)), .unset, .unset, .unset, .unset] [(.int (2 : Int32)), (.int i5)])) _
  refine XS.icmpYes X0.here hx rfl (pc0 := 338) (pc' := 360) rfl (hb hby at_338) rfl (feq hc338).2 (by decide) (by decide) ?_
  show Steps p.tables e below (T0.setTop (mkF m 360 #[s0, s1, s2, s3, s4, .val (.int i5), .val (.int i6), .val (.int i7), s8, s9, s10, s11, s12, s13, s14, .val (.int (0 : Int32)), .unset, .unset, .unset, .unset] [])) _
  refine XS.iload X0.here hx rfl (hb hby at_360) rfl ?_
  show Steps p.tables e below (T0.setTop (mkF m 362 #[s0, s1, s2, s3, s4, .val (.int i5), .val (.int i6), .val (.int i7), s8, s9, s10, s11, s12, s13, s14, .val (.int (0 : Int32)), .unset, .unset, .unset, .unset] [(.int i5)])) _
  refine XS.iconst X0.here hx rfl (hb hby at_362) ?_
  show Steps p.tables e below (T0.setTop (mkF m 363 #[s0, s1, s2, s3, s4, .val (.int i5), .val (.int i6), .val (.int i7), s8, s9, s10, s11, s12, s13, s14, .val (.int (0 : Int32)), .unset, .unset, .unset, .unset] [(.int (3 : Int32)), (.int i5)])) _
  refine XS.icmpNo X0.here hx rfl (hb hby at_363) rfl (teq hc363).2 ?_
  show Steps p.tables e below (T0.setTop (mkF m 366 #[s0, s1, s2, s3, s4, .val (.int i5), .val (.int i6), .val (.int i7), s8, s9, s10, s11, s12, s13, s14, .val (.int (0 : Int32)), .unset, .unset, .unset, .unset] [])) _
  refine XS.iload X0.here hx rfl (hb hby at_366) rfl ?_
  show Steps p.tables e below (T0.setTop (mkF m 368 #[s0, s1, s2, s3, s4, .val (.int i5), .val (.int i6), .val (.int i7), s8, s9, s10, s11, s12, s13, s14, .val (.int (0 : Int32)), .unset, .unset, .unset, .unset] [(.int (0 : Int32))])) _
  refine XS.ifYes X0.here hx rfl (pc0 := 368) (pc' := 379) rfl (hb hby at_368) rfl ((if0 _ _).trans (teq (by decide : (0 : Int32) = (0 : Int32))).1) (by decide) (by decide) ?_
  show Steps p.tables e below (T0.setTop (mkF m 379 #[s0, s1, s2, s3, s4, .val (.int i5), .val (.int i6), .val (.int i7), s8, s9, s10, s11, s12, s13, s14, .val (.int (0 : Int32)), .unset, .unset, .unset, .unset] [])) _
  refine XS.dconst0 X0.here hx rfl (hb hby at_379) rfl ?_
  show Steps p.tables e below (T0.setTop (mkF m 380 #[s0, s1, s2, s3, s4, .val (.int i5), .val (.int i6), .val (.int i7), s8, s9, s10, s11, s12, s13, s14, .val (.int (0 : Int32)), .unset, .unset, .unset, .unset] [(.double FP.dconst0)])) _
  refine XS.dstore X0.here hx rfl (hb hby at_380) rfl (l' := #[s0, s1, s2, s3, s4, .val (.int i5), .val (.int i6), .val (.int i7), s8, s9, s10, s11, s12, s13, s14, .val (.int (0 : Int32)), .val (.double FP.dconst0), .second, .unset, .unset]) rfl ?_
  show Steps p.tables e below (T0.setTop (mkF m 382 #[s0, s1, s2, s3, s4, .val (.int i5), .val (.int i6), .val (.int i7), s8, s9, s10, s11, s12, s13, s14, .val (.int (0 : Int32)), .val (.double FP.dconst0), .second, .unset, .unset] [])) _
  refine XS.goto X0.here hx rfl (pc0 := 382) (pc' := 397) rfl (hb hby at_382) (by decide) (by decide) ?_
  exact kt
set_option maxRecDepth 65536 in
set_option maxHeartbeats 40000000 in
theorem tl4_ft {p : Program} {l : Launch} {e : Env} {R : Room} {s : State} {m : MethodId} {args : Array Value} {below : List Frame} {meth : Method} {c : Code} {T0 : State} {locs : List Loc} {cells slots : Nat} {Z : State} {a0 : Array Value} {h0 : Heap} (s0 : Slot) (s1 : Slot) (s2 : Slot) (s3 : Slot) (s4 : Slot) (i5 : Int32) (i6 : Int32) (i7 : Int32) (s8 : Slot) (s9 : Slot) (s10 : Slot) (s11 : Slot) (s12 : Slot) (s13 : Slot) (s14 : Slot)
    (X0 : Stand p l e R s m args below meth c T0 locs cells slots) (hx : p.tables.exec = Jvm.exec) (hZ : Z.Warmed39 s.vm) (hw : ∀ d ∈ tables_1, d.before a0 Z = true) (hby : c.code = code) (hml : c.maxLocals = 20) (hown : s.vm.findClass "com/example/pesquisa/pesquisa/MeasureScorePinLaw" = some m.cls) (e0 : T0.heap = h0) (hc173 : (0 : Int32) < i6) (hc180 : (10 : Int32) < i7) (hc192 : ¬ (i5 = (0 : Int32))) (hc261 : ¬ (i5 = (1 : Int32))) (hc338 : ¬ (i5 = (2 : Int32))) (hc363 : ¬ (i5 = (3 : Int32))) :
    ∃ (T' : State), Stand p l e R s m args below meth c T' locs cells slots ∧ T'.heap = h0 ∧
      ∀ target, Steps p.tables e below (T'.setTop (mkF m 397 #[s0, s1, s2, s3, s4, .val (.int i5), .val (.int i6), .val (.int i7), s8, s9, s10, s11, s12, s13, s14, .val (.int (0 : Int32)), .val (.double FP.dconst0), .second, .unset, .unset] [])) target → Steps p.tables e below (T0.setTop (mkF m 171 #[s0, s1, s2, s3, s4, .val (.int i5), .val (.int i6), .val (.int i7), s8, s9, s10, s11, s12, s13, s14, .unset, .unset, .unset, .unset, .unset] [])) target := by

  refine ⟨T0, X0, e0, fun target kt => ?_⟩
  show Steps p.tables e below (T0.setTop (mkF m 171 #[s0, s1, s2, s3, s4, .val (.int i5), .val (.int i6), .val (.int i7), s8, s9, s10, s11, s12, s13, s14, .unset, .unset, .unset, .unset, .unset] [])) _
  refine XS.iload X0.here hx rfl (hb hby at_171) rfl ?_
  show Steps p.tables e below (T0.setTop (mkF m 173 #[s0, s1, s2, s3, s4, .val (.int i5), .val (.int i6), .val (.int i7), s8, s9, s10, s11, s12, s13, s14, .unset, .unset, .unset, .unset, .unset] [(.int i6)])) _
  refine XS.ifNo X0.here hx rfl (hb hby at_173) rfl ((if0 _ _).trans (tlt hc173).2.2.2) ?_
  show Steps p.tables e below (T0.setTop (mkF m 176 #[s0, s1, s2, s3, s4, .val (.int i5), .val (.int i6), .val (.int i7), s8, s9, s10, s11, s12, s13, s14, .unset, .unset, .unset, .unset, .unset] [])) _
  refine XS.iload X0.here hx rfl (hb hby at_176) rfl ?_
  show Steps p.tables e below (T0.setTop (mkF m 178 #[s0, s1, s2, s3, s4, .val (.int i5), .val (.int i6), .val (.int i7), s8, s9, s10, s11, s12, s13, s14, .unset, .unset, .unset, .unset, .unset] [(.int i7)])) _
  refine XS.bipush X0.here hx rfl (hb hby at_178) ?_
  show Steps p.tables e below (T0.setTop (mkF m 180 #[s0, s1, s2, s3, s4, .val (.int i5), .val (.int i6), .val (.int i7), s8, s9, s10, s11, s12, s13, s14, .unset, .unset, .unset, .unset, .unset] [(.int (10 : Int32)), (.int i7)])) _
  refine XS.icmpYes X0.here hx rfl (pc0 := 180) (pc' := 187) rfl (hb hby at_180) rfl (tlt hc180).2.2.1 (by decide) (by decide) ?_
  show Steps p.tables e below (T0.setTop (mkF m 187 #[s0, s1, s2, s3, s4, .val (.int i5), .val (.int i6), .val (.int i7), s8, s9, s10, s11, s12, s13, s14, .unset, .unset, .unset, .unset, .unset] [])) _
  refine XS.iconst X0.here hx rfl (hb hby at_187) ?_
  show Steps p.tables e below (T0.setTop (mkF m 188 #[s0, s1, s2, s3, s4, .val (.int i5), .val (.int i6), .val (.int i7), s8, s9, s10, s11, s12, s13, s14, .unset, .unset, .unset, .unset, .unset] [(.int (0 : Int32))])) _
  refine XS.istore X0.here hx rfl (hb hby at_188) rfl (l' := #[s0, s1, s2, s3, s4, .val (.int i5), .val (.int i6), .val (.int i7), s8, s9, s10, s11, s12, s13, s14, .val (.int (0 : Int32)), .unset, .unset, .unset, .unset]) rfl ?_
  show Steps p.tables e below (T0.setTop (mkF m 190 #[s0, s1, s2, s3, s4, .val (.int i5), .val (.int i6), .val (.int i7), s8, s9, s10, s11, s12, s13, s14, .val (.int (0 : Int32)), .unset, .unset, .unset, .unset] [])) _
  refine XS.iload X0.here hx rfl (hb hby at_190) rfl ?_
  show Steps p.tables e below (T0.setTop (mkF m 192 #[s0, s1, s2, s3, s4, .val (.int i5), .val (.int i6), .val (.int i7), s8, s9, s10, s11, s12, s13, s14, .val (.int (0 : Int32)), .unset, .unset, .unset, .unset] [(.int i5)])) _
  refine XS.ifYes X0.here hx rfl (pc0 := 192) (pc' := 258) rfl (hb hby at_192) rfl ((if0 _ _).trans (feq hc192).2) (by decide) (by decide) ?_
  show Steps p.tables e below (T0.setTop (mkF m 258 #[s0, s1, s2, s3, s4, .val (.int i5), .val (.int i6), .val (.int i7), s8, s9, s10, s11, s12, s13, s14, .val (.int (0 : Int32)), .unset, .unset, .unset, .unset] [])) _
  refine XS.iload X0.here hx rfl (hb hby at_258) rfl ?_
  show Steps p.tables e below (T0.setTop (mkF m 260 #[s0, s1, s2, s3, s4, .val (.int i5), .val (.int i6), .val (.int i7), s8, s9, s10, s11, s12, s13, s14, .val (.int (0 : Int32)), .unset, .unset, .unset, .unset] [(.int i5)])) _
  refine XS.iconst X0.here hx rfl (hb hby at_260) ?_
  show Steps p.tables e below (T0.setTop (mkF m 261 #[s0, s1, s2, s3, s4, .val (.int i5), .val (.int i6), .val (.int i7), s8, s9, s10, s11, s12, s13, s14, .val (.int (0 : Int32)), .unset, .unset, .unset, .unset] [(.int (1 : Int32)), (.int i5)])) _
  refine XS.icmpYes X0.here hx rfl (pc0 := 261) (pc' := 335) rfl (hb hby at_261) rfl (feq hc261).2 (by decide) (by decide) ?_
  show Steps p.tables e below (T0.setTop (mkF m 335 #[s0, s1, s2, s3, s4, .val (.int i5), .val (.int i6), .val (.int i7), s8, s9, s10, s11, s12, s13, s14, .val (.int (0 : Int32)), .unset, .unset, .unset, .unset] [])) _
  refine XS.iload X0.here hx rfl (hb hby at_335) rfl ?_
  show Steps p.tables e below (T0.setTop (mkF m 337 #[s0, s1, s2, s3, s4, .val (.int i5), .val (.int i6), .val (.int i7), s8, s9, s10, s11, s12, s13, s14, .val (.int (0 : Int32)), .unset, .unset, .unset, .unset] [(.int i5)])) _
  refine XS.iconst X0.here hx rfl (hb hby at_337) ?_
  show Steps p.tables e below (T0.setTop (mkF m 338 #[s0, s1, s2, s3, s4, .val (.int i5), .val (.int i6), .val (.int i7), s8, s9, s10, s11, s12, s13, s14, .val (.int (0 : Int32)), .unset, .unset, .unset, .unset] [(.int (2 : Int32)), (.int i5)])) _
  refine XS.icmpYes X0.here hx rfl (pc0 := 338) (pc' := 360) rfl (hb hby at_338) rfl (feq hc338).2 (by decide) (by decide) ?_
  show Steps p.tables e below (T0.setTop (mkF m 360 #[s0, s1, s2, s3, s4, .val (.int i5), .val (.int i6), .val (.int i7), s8, s9, s10, s11, s12, s13, s14, .val (.int (0 : Int32)), .unset, .unset, .unset, .unset] [])) _
  refine XS.iload X0.here hx rfl (hb hby at_360) rfl ?_
  show Steps p.tables e below (T0.setTop (mkF m 362 #[s0, s1, s2, s3, s4, .val (.int i5), .val (.int i6), .val (.int i7), s8, s9, s10, s11, s12, s13, s14, .val (.int (0 : Int32)), .unset, .unset, .unset, .unset] [(.int i5)])) _
  refine XS.iconst X0.here hx rfl (hb hby at_362) ?_
  show Steps p.tables e below (T0.setTop (mkF m 363 #[s0, s1, s2, s3, s4, .val (.int i5), .val (.int i6), .val (.int i7), s8, s9, s10, s11, s12, s13, s14, .val (.int (0 : Int32)), .unset, .unset, .unset, .unset] [(.int (3 : Int32)), (.int i5)])) _
  refine XS.icmpYes X0.here hx rfl (pc0 := 363) (pc' := 385) rfl (hb hby at_363) rfl (feq hc363).2 (by decide) (by decide) ?_
  show Steps p.tables e below (T0.setTop (mkF m 385 #[s0, s1, s2, s3, s4, .val (.int i5), .val (.int i6), .val (.int i7), s8, s9, s10, s11, s12, s13, s14, .val (.int (0 : Int32)), .unset, .unset, .unset, .unset] [])) _
  refine XS.iload X0.here hx rfl (hb hby at_385) rfl ?_
  show Steps p.tables e below (T0.setTop (mkF m 387 #[s0, s1, s2, s3, s4, .val (.int i5), .val (.int i6), .val (.int i7), s8, s9, s10, s11, s12, s13, s14, .val (.int (0 : Int32)), .unset, .unset, .unset, .unset] [(.int (0 : Int32))])) _
  refine XS.ifYes X0.here hx rfl (pc0 := 387) (pc' := 394) rfl (hb hby at_387) rfl ((if0 _ _).trans (teq (by decide : (0 : Int32) = (0 : Int32))).1) (by decide) (by decide) ?_
  show Steps p.tables e below (T0.setTop (mkF m 394 #[s0, s1, s2, s3, s4, .val (.int i5), .val (.int i6), .val (.int i7), s8, s9, s10, s11, s12, s13, s14, .val (.int (0 : Int32)), .unset, .unset, .unset, .unset] [])) _
  refine XS.dconst0 X0.here hx rfl (hb hby at_394) rfl ?_
  show Steps p.tables e below (T0.setTop (mkF m 395 #[s0, s1, s2, s3, s4, .val (.int i5), .val (.int i6), .val (.int i7), s8, s9, s10, s11, s12, s13, s14, .val (.int (0 : Int32)), .unset, .unset, .unset, .unset] [(.double FP.dconst0)])) _
  refine XS.dstore X0.here hx rfl (hb hby at_395) rfl (l' := #[s0, s1, s2, s3, s4, .val (.int i5), .val (.int i6), .val (.int i7), s8, s9, s10, s11, s12, s13, s14, .val (.int (0 : Int32)), .val (.double FP.dconst0), .second, .unset, .unset]) rfl ?_
  exact kt
set_option maxRecDepth 65536 in
set_option maxHeartbeats 40000000 in
theorem tl3_ff {p : Program} {l : Launch} {e : Env} {R : Room} {s : State} {m : MethodId} {args : Array Value} {below : List Frame} {meth : Method} {c : Code} {T0 : State} {locs : List Loc} {cells slots : Nat} {Z : State} {a0 : Array Value} {h0 : Heap} (s0 : Slot) (s1 : Slot) (s2 : Slot) (s3 : Slot) (s4 : Slot) (i5 : Int32) (i6 : Int32) (i7 : Int32) (s8 : Slot) (s9 : Slot) (s10 : Slot) (s11 : Slot) (s12 : Slot) (s13 : Slot) (s14 : Slot) (r375 : UInt64)
    (X0 : Stand p l e R s m args below meth c T0 locs cells slots) (hx : p.tables.exec = Jvm.exec) (hZ : Z.Warmed39 s.vm) (hw : ∀ d ∈ tables_1, d.before a0 Z = true) (hby : c.code = code) (hml : c.maxLocals = 20) (hown : s.vm.findClass "com/example/pesquisa/pesquisa/MeasureScorePinLaw" = some m.cls) (e0 : T0.heap = h0) (hc173 : (0 : Int32) < i6) (hc180 : ¬ ((10 : Int32) < i7)) (hc192 : ¬ (i5 = (0 : Int32))) (hc261 : ¬ (i5 = (1 : Int32))) (hc338 : ¬ (i5 = (2 : Int32))) (hc363 : i5 = (3 : Int32)) (hv375 : (FP.ddiv FP.dconst1 (FP.i2d i7)) = r375) (hn375 : Jvm.Free.Fl.NoNaN64 (FP.ddiv FP.dconst1 (FP.i2d i7))) :
    ∃ (T' : State), Stand p l e R s m args below meth c T' locs cells slots ∧ T'.heap = h0 ∧
      ∀ target, Steps p.tables e below (T'.setTop (mkF m 397 #[s0, s1, s2, s3, s4, .val (.int i5), .val (.int i6), .val (.int i7), s8, s9, s10, s11, s12, s13, s14, .val (.int (1 : Int32)), .val (.double r375), .second, .unset, .unset] [])) target → Steps p.tables e below (T0.setTop (mkF m 171 #[s0, s1, s2, s3, s4, .val (.int i5), .val (.int i6), .val (.int i7), s8, s9, s10, s11, s12, s13, s14, .unset, .unset, .unset, .unset, .unset] [])) target := by

  refine ⟨T0, X0, e0, fun target kt => ?_⟩
  show Steps p.tables e below (T0.setTop (mkF m 171 #[s0, s1, s2, s3, s4, .val (.int i5), .val (.int i6), .val (.int i7), s8, s9, s10, s11, s12, s13, s14, .unset, .unset, .unset, .unset, .unset] [])) _
  refine XS.iload X0.here hx rfl (hb hby at_171) rfl ?_
  show Steps p.tables e below (T0.setTop (mkF m 173 #[s0, s1, s2, s3, s4, .val (.int i5), .val (.int i6), .val (.int i7), s8, s9, s10, s11, s12, s13, s14, .unset, .unset, .unset, .unset, .unset] [(.int i6)])) _
  refine XS.ifNo X0.here hx rfl (hb hby at_173) rfl ((if0 _ _).trans (tlt hc173).2.2.2) ?_
  show Steps p.tables e below (T0.setTop (mkF m 176 #[s0, s1, s2, s3, s4, .val (.int i5), .val (.int i6), .val (.int i7), s8, s9, s10, s11, s12, s13, s14, .unset, .unset, .unset, .unset, .unset] [])) _
  refine XS.iload X0.here hx rfl (hb hby at_176) rfl ?_
  show Steps p.tables e below (T0.setTop (mkF m 178 #[s0, s1, s2, s3, s4, .val (.int i5), .val (.int i6), .val (.int i7), s8, s9, s10, s11, s12, s13, s14, .unset, .unset, .unset, .unset, .unset] [(.int i7)])) _
  refine XS.bipush X0.here hx rfl (hb hby at_178) ?_
  show Steps p.tables e below (T0.setTop (mkF m 180 #[s0, s1, s2, s3, s4, .val (.int i5), .val (.int i6), .val (.int i7), s8, s9, s10, s11, s12, s13, s14, .unset, .unset, .unset, .unset, .unset] [(.int (10 : Int32)), (.int i7)])) _
  refine XS.icmpNo X0.here hx rfl (hb hby at_180) rfl (flt hc180).2.2.1 ?_
  show Steps p.tables e below (T0.setTop (mkF m 183 #[s0, s1, s2, s3, s4, .val (.int i5), .val (.int i6), .val (.int i7), s8, s9, s10, s11, s12, s13, s14, .unset, .unset, .unset, .unset, .unset] [])) _
  refine XS.iconst X0.here hx rfl (hb hby at_183) ?_
  show Steps p.tables e below (T0.setTop (mkF m 184 #[s0, s1, s2, s3, s4, .val (.int i5), .val (.int i6), .val (.int i7), s8, s9, s10, s11, s12, s13, s14, .unset, .unset, .unset, .unset, .unset] [(.int (1 : Int32))])) _
  refine XS.goto X0.here hx rfl (pc0 := 184) (pc' := 188) rfl (hb hby at_184) (by decide) (by decide) ?_
  show Steps p.tables e below (T0.setTop (mkF m 188 #[s0, s1, s2, s3, s4, .val (.int i5), .val (.int i6), .val (.int i7), s8, s9, s10, s11, s12, s13, s14, .unset, .unset, .unset, .unset, .unset] [(.int (1 : Int32))])) _
  refine XS.istore X0.here hx rfl (hb hby at_188) rfl (l' := #[s0, s1, s2, s3, s4, .val (.int i5), .val (.int i6), .val (.int i7), s8, s9, s10, s11, s12, s13, s14, .val (.int (1 : Int32)), .unset, .unset, .unset, .unset]) rfl ?_
  show Steps p.tables e below (T0.setTop (mkF m 190 #[s0, s1, s2, s3, s4, .val (.int i5), .val (.int i6), .val (.int i7), s8, s9, s10, s11, s12, s13, s14, .val (.int (1 : Int32)), .unset, .unset, .unset, .unset] [])) _
  refine XS.iload X0.here hx rfl (hb hby at_190) rfl ?_
  show Steps p.tables e below (T0.setTop (mkF m 192 #[s0, s1, s2, s3, s4, .val (.int i5), .val (.int i6), .val (.int i7), s8, s9, s10, s11, s12, s13, s14, .val (.int (1 : Int32)), .unset, .unset, .unset, .unset] [(.int i5)])) _
  refine XS.ifYes X0.here hx rfl (pc0 := 192) (pc' := 258) rfl (hb hby at_192) rfl ((if0 _ _).trans (feq hc192).2) (by decide) (by decide) ?_
  show Steps p.tables e below (T0.setTop (mkF m 258 #[s0, s1, s2, s3, s4, .val (.int i5), .val (.int i6), .val (.int i7), s8, s9, s10, s11, s12, s13, s14, .val (.int (1 : Int32)), .unset, .unset, .unset, .unset] [])) _
  refine XS.iload X0.here hx rfl (hb hby at_258) rfl ?_
  show Steps p.tables e below (T0.setTop (mkF m 260 #[s0, s1, s2, s3, s4, .val (.int i5), .val (.int i6), .val (.int i7), s8, s9, s10, s11, s12, s13, s14, .val (.int (1 : Int32)), .unset, .unset, .unset, .unset] [(.int i5)])) _
  refine XS.iconst X0.here hx rfl (hb hby at_260) ?_
  show Steps p.tables e below (T0.setTop (mkF m 261 #[s0, s1, s2, s3, s4, .val (.int i5), .val (.int i6), .val (.int i7), s8, s9, s10, s11, s12, s13, s14, .val (.int (1 : Int32)), .unset, .unset, .unset, .unset] [(.int (1 : Int32)), (.int i5)])) _
  refine XS.icmpYes X0.here hx rfl (pc0 := 261) (pc' := 335) rfl (hb hby at_261) rfl (feq hc261).2 (by decide) (by decide) ?_
  show Steps p.tables e below (T0.setTop (mkF m 335 #[s0, s1, s2, s3, s4, .val (.int i5), .val (.int i6), .val (.int i7), s8, s9, s10, s11, s12, s13, s14, .val (.int (1 : Int32)), .unset, .unset, .unset, .unset] [])) _
  refine XS.iload X0.here hx rfl (hb hby at_335) rfl ?_
  show Steps p.tables e below (T0.setTop (mkF m 337 #[s0, s1, s2, s3, s4, .val (.int i5), .val (.int i6), .val (.int i7), s8, s9, s10, s11, s12, s13, s14, .val (.int (1 : Int32)), .unset, .unset, .unset, .unset] [(.int i5)])) _
  refine XS.iconst X0.here hx rfl (hb hby at_337) ?_
  show Steps p.tables e below (T0.setTop (mkF m 338 #[s0, s1, s2, s3, s4, .val (.int i5), .val (.int i6), .val (.int i7), s8, s9, s10, s11, s12, s13, s14, .val (.int (1 : Int32)), .unset, .unset, .unset, .unset] [(.int (2 : Int32)), (.int i5)])) _
  refine XS.icmpYes X0.here hx rfl (pc0 := 338) (pc' := 360) rfl (hb hby at_338) rfl (feq hc338).2 (by decide) (by decide) ?_
  show Steps p.tables e below (T0.setTop (mkF m 360 #[s0, s1, s2, s3, s4, .val (.int i5), .val (.int i6), .val (.int i7), s8, s9, s10, s11, s12, s13, s14, .val (.int (1 : Int32)), .unset, .unset, .unset, .unset] [])) _
  refine XS.iload X0.here hx rfl (hb hby at_360) rfl ?_
  show Steps p.tables e below (T0.setTop (mkF m 362 #[s0, s1, s2, s3, s4, .val (.int i5), .val (.int i6), .val (.int i7), s8, s9, s10, s11, s12, s13, s14, .val (.int (1 : Int32)), .unset, .unset, .unset, .unset] [(.int i5)])) _
  refine XS.iconst X0.here hx rfl (hb hby at_362) ?_
  show Steps p.tables e below (T0.setTop (mkF m 363 #[s0, s1, s2, s3, s4, .val (.int i5), .val (.int i6), .val (.int i7), s8, s9, s10, s11, s12, s13, s14, .val (.int (1 : Int32)), .unset, .unset, .unset, .unset] [(.int (3 : Int32)), (.int i5)])) _
  refine XS.icmpNo X0.here hx rfl (hb hby at_363) rfl (teq hc363).2 ?_
  show Steps p.tables e below (T0.setTop (mkF m 366 #[s0, s1, s2, s3, s4, .val (.int i5), .val (.int i6), .val (.int i7), s8, s9, s10, s11, s12, s13, s14, .val (.int (1 : Int32)), .unset, .unset, .unset, .unset] [])) _
  refine XS.iload X0.here hx rfl (hb hby at_366) rfl ?_
  show Steps p.tables e below (T0.setTop (mkF m 368 #[s0, s1, s2, s3, s4, .val (.int i5), .val (.int i6), .val (.int i7), s8, s9, s10, s11, s12, s13, s14, .val (.int (1 : Int32)), .unset, .unset, .unset, .unset] [(.int (1 : Int32))])) _
  refine XS.ifNo X0.here hx rfl (hb hby at_368) rfl ((if0 _ _).trans (feq (by decide : ¬ ((1 : Int32) = (0 : Int32)))).1) ?_
  show Steps p.tables e below (T0.setTop (mkF m 371 #[s0, s1, s2, s3, s4, .val (.int i5), .val (.int i6), .val (.int i7), s8, s9, s10, s11, s12, s13, s14, .val (.int (1 : Int32)), .unset, .unset, .unset, .unset] [])) _
  refine XS.dconst1 X0.here hx rfl (hb hby at_371) rfl ?_
  show Steps p.tables e below (T0.setTop (mkF m 372 #[s0, s1, s2, s3, s4, .val (.int i5), .val (.int i6), .val (.int i7), s8, s9, s10, s11, s12, s13, s14, .val (.int (1 : Int32)), .unset, .unset, .unset, .unset] [(.double FP.dconst1)])) _
  refine XS.iload X0.here hx rfl (hb hby at_372) rfl ?_
  show Steps p.tables e below (T0.setTop (mkF m 374 #[s0, s1, s2, s3, s4, .val (.int i5), .val (.int i6), .val (.int i7), s8, s9, s10, s11, s12, s13, s14, .val (.int (1 : Int32)), .unset, .unset, .unset, .unset] [(.int i7), (.double FP.dconst1)])) _
  refine XS.i2dS X0.here hx rfl (hb hby at_374) rfl rfl ?_
  show Steps p.tables e below (T0.setTop (mkF m 375 #[s0, s1, s2, s3, s4, .val (.int i5), .val (.int i6), .val (.int i7), s8, s9, s10, s11, s12, s13, s14, .val (.int (1 : Int32)), .unset, .unset, .unset, .unset] [(.double (FP.i2d i7)), (.double FP.dconst1)])) _
  refine XS.ddivS X0.here hx rfl (hb hby at_375) rfl hn375 hv375 ?_
  show Steps p.tables e below (T0.setTop (mkF m 376 #[s0, s1, s2, s3, s4, .val (.int i5), .val (.int i6), .val (.int i7), s8, s9, s10, s11, s12, s13, s14, .val (.int (1 : Int32)), .unset, .unset, .unset, .unset] [(.double r375)])) _
  refine XS.goto X0.here hx rfl (pc0 := 376) (pc' := 380) rfl (hb hby at_376) (by decide) (by decide) ?_
  show Steps p.tables e below (T0.setTop (mkF m 380 #[s0, s1, s2, s3, s4, .val (.int i5), .val (.int i6), .val (.int i7), s8, s9, s10, s11, s12, s13, s14, .val (.int (1 : Int32)), .unset, .unset, .unset, .unset] [(.double r375)])) _
  refine XS.dstore X0.here hx rfl (hb hby at_380) rfl (l' := #[s0, s1, s2, s3, s4, .val (.int i5), .val (.int i6), .val (.int i7), s8, s9, s10, s11, s12, s13, s14, .val (.int (1 : Int32)), .val (.double r375), .second, .unset, .unset]) rfl ?_
  show Steps p.tables e below (T0.setTop (mkF m 382 #[s0, s1, s2, s3, s4, .val (.int i5), .val (.int i6), .val (.int i7), s8, s9, s10, s11, s12, s13, s14, .val (.int (1 : Int32)), .val (.double r375), .second, .unset, .unset] [])) _
  refine XS.goto X0.here hx rfl (pc0 := 382) (pc' := 397) rfl (hb hby at_382) (by decide) (by decide) ?_
  exact kt
set_option maxRecDepth 65536 in
set_option maxHeartbeats 40000000 in
theorem tl4_ff {p : Program} {l : Launch} {e : Env} {R : Room} {s : State} {m : MethodId} {args : Array Value} {below : List Frame} {meth : Method} {c : Code} {T0 : State} {locs : List Loc} {cells slots : Nat} {Z : State} {a0 : Array Value} {h0 : Heap} (s0 : Slot) (s1 : Slot) (s2 : Slot) (s3 : Slot) (s4 : Slot) (i5 : Int32) (i6 : Int32) (i7 : Int32) (s8 : Slot) (s9 : Slot) (s10 : Slot) (s11 : Slot) (s12 : Slot) (s13 : Slot) (s14 : Slot)
    (X0 : Stand p l e R s m args below meth c T0 locs cells slots) (hx : p.tables.exec = Jvm.exec) (hZ : Z.Warmed39 s.vm) (hw : ∀ d ∈ tables_1, d.before a0 Z = true) (hby : c.code = code) (hml : c.maxLocals = 20) (hown : s.vm.findClass "com/example/pesquisa/pesquisa/MeasureScorePinLaw" = some m.cls) (e0 : T0.heap = h0) (hc173 : (0 : Int32) < i6) (hc180 : ¬ ((10 : Int32) < i7)) (hc192 : ¬ (i5 = (0 : Int32))) (hc261 : ¬ (i5 = (1 : Int32))) (hc338 : ¬ (i5 = (2 : Int32))) (hc363 : ¬ (i5 = (3 : Int32))) :
    ∃ (T' : State), Stand p l e R s m args below meth c T' locs cells slots ∧ T'.heap = h0 ∧
      ∀ target, Steps p.tables e below (T'.setTop (mkF m 397 #[s0, s1, s2, s3, s4, .val (.int i5), .val (.int i6), .val (.int i7), s8, s9, s10, s11, s12, s13, s14, .val (.int (1 : Int32)), .val (.double FP.dconst1), .second, .unset, .unset] [])) target → Steps p.tables e below (T0.setTop (mkF m 171 #[s0, s1, s2, s3, s4, .val (.int i5), .val (.int i6), .val (.int i7), s8, s9, s10, s11, s12, s13, s14, .unset, .unset, .unset, .unset, .unset] [])) target := by

  refine ⟨T0, X0, e0, fun target kt => ?_⟩
  show Steps p.tables e below (T0.setTop (mkF m 171 #[s0, s1, s2, s3, s4, .val (.int i5), .val (.int i6), .val (.int i7), s8, s9, s10, s11, s12, s13, s14, .unset, .unset, .unset, .unset, .unset] [])) _
  refine XS.iload X0.here hx rfl (hb hby at_171) rfl ?_
  show Steps p.tables e below (T0.setTop (mkF m 173 #[s0, s1, s2, s3, s4, .val (.int i5), .val (.int i6), .val (.int i7), s8, s9, s10, s11, s12, s13, s14, .unset, .unset, .unset, .unset, .unset] [(.int i6)])) _
  refine XS.ifNo X0.here hx rfl (hb hby at_173) rfl ((if0 _ _).trans (tlt hc173).2.2.2) ?_
  show Steps p.tables e below (T0.setTop (mkF m 176 #[s0, s1, s2, s3, s4, .val (.int i5), .val (.int i6), .val (.int i7), s8, s9, s10, s11, s12, s13, s14, .unset, .unset, .unset, .unset, .unset] [])) _
  refine XS.iload X0.here hx rfl (hb hby at_176) rfl ?_
  show Steps p.tables e below (T0.setTop (mkF m 178 #[s0, s1, s2, s3, s4, .val (.int i5), .val (.int i6), .val (.int i7), s8, s9, s10, s11, s12, s13, s14, .unset, .unset, .unset, .unset, .unset] [(.int i7)])) _
  refine XS.bipush X0.here hx rfl (hb hby at_178) ?_
  show Steps p.tables e below (T0.setTop (mkF m 180 #[s0, s1, s2, s3, s4, .val (.int i5), .val (.int i6), .val (.int i7), s8, s9, s10, s11, s12, s13, s14, .unset, .unset, .unset, .unset, .unset] [(.int (10 : Int32)), (.int i7)])) _
  refine XS.icmpNo X0.here hx rfl (hb hby at_180) rfl (flt hc180).2.2.1 ?_
  show Steps p.tables e below (T0.setTop (mkF m 183 #[s0, s1, s2, s3, s4, .val (.int i5), .val (.int i6), .val (.int i7), s8, s9, s10, s11, s12, s13, s14, .unset, .unset, .unset, .unset, .unset] [])) _
  refine XS.iconst X0.here hx rfl (hb hby at_183) ?_
  show Steps p.tables e below (T0.setTop (mkF m 184 #[s0, s1, s2, s3, s4, .val (.int i5), .val (.int i6), .val (.int i7), s8, s9, s10, s11, s12, s13, s14, .unset, .unset, .unset, .unset, .unset] [(.int (1 : Int32))])) _
  refine XS.goto X0.here hx rfl (pc0 := 184) (pc' := 188) rfl (hb hby at_184) (by decide) (by decide) ?_
  show Steps p.tables e below (T0.setTop (mkF m 188 #[s0, s1, s2, s3, s4, .val (.int i5), .val (.int i6), .val (.int i7), s8, s9, s10, s11, s12, s13, s14, .unset, .unset, .unset, .unset, .unset] [(.int (1 : Int32))])) _
  refine XS.istore X0.here hx rfl (hb hby at_188) rfl (l' := #[s0, s1, s2, s3, s4, .val (.int i5), .val (.int i6), .val (.int i7), s8, s9, s10, s11, s12, s13, s14, .val (.int (1 : Int32)), .unset, .unset, .unset, .unset]) rfl ?_
  show Steps p.tables e below (T0.setTop (mkF m 190 #[s0, s1, s2, s3, s4, .val (.int i5), .val (.int i6), .val (.int i7), s8, s9, s10, s11, s12, s13, s14, .val (.int (1 : Int32)), .unset, .unset, .unset, .unset] [])) _
  refine XS.iload X0.here hx rfl (hb hby at_190) rfl ?_
  show Steps p.tables e below (T0.setTop (mkF m 192 #[s0, s1, s2, s3, s4, .val (.int i5), .val (.int i6), .val (.int i7), s8, s9, s10, s11, s12, s13, s14, .val (.int (1 : Int32)), .unset, .unset, .unset, .unset] [(.int i5)])) _
  refine XS.ifYes X0.here hx rfl (pc0 := 192) (pc' := 258) rfl (hb hby at_192) rfl ((if0 _ _).trans (feq hc192).2) (by decide) (by decide) ?_
  show Steps p.tables e below (T0.setTop (mkF m 258 #[s0, s1, s2, s3, s4, .val (.int i5), .val (.int i6), .val (.int i7), s8, s9, s10, s11, s12, s13, s14, .val (.int (1 : Int32)), .unset, .unset, .unset, .unset] [])) _
  refine XS.iload X0.here hx rfl (hb hby at_258) rfl ?_
  show Steps p.tables e below (T0.setTop (mkF m 260 #[s0, s1, s2, s3, s4, .val (.int i5), .val (.int i6), .val (.int i7), s8, s9, s10, s11, s12, s13, s14, .val (.int (1 : Int32)), .unset, .unset, .unset, .unset] [(.int i5)])) _
  refine XS.iconst X0.here hx rfl (hb hby at_260) ?_
  show Steps p.tables e below (T0.setTop (mkF m 261 #[s0, s1, s2, s3, s4, .val (.int i5), .val (.int i6), .val (.int i7), s8, s9, s10, s11, s12, s13, s14, .val (.int (1 : Int32)), .unset, .unset, .unset, .unset] [(.int (1 : Int32)), (.int i5)])) _
  refine XS.icmpYes X0.here hx rfl (pc0 := 261) (pc' := 335) rfl (hb hby at_261) rfl (feq hc261).2 (by decide) (by decide) ?_
  show Steps p.tables e below (T0.setTop (mkF m 335 #[s0, s1, s2, s3, s4, .val (.int i5), .val (.int i6), .val (.int i7), s8, s9, s10, s11, s12, s13, s14, .val (.int (1 : Int32)), .unset, .unset, .unset, .unset] [])) _
  refine XS.iload X0.here hx rfl (hb hby at_335) rfl ?_
  show Steps p.tables e below (T0.setTop (mkF m 337 #[s0, s1, s2, s3, s4, .val (.int i5), .val (.int i6), .val (.int i7), s8, s9, s10, s11, s12, s13, s14, .val (.int (1 : Int32)), .unset, .unset, .unset, .unset] [(.int i5)])) _
  refine XS.iconst X0.here hx rfl (hb hby at_337) ?_
  show Steps p.tables e below (T0.setTop (mkF m 338 #[s0, s1, s2, s3, s4, .val (.int i5), .val (.int i6), .val (.int i7), s8, s9, s10, s11, s12, s13, s14, .val (.int (1 : Int32)), .unset, .unset, .unset, .unset] [(.int (2 : Int32)), (.int i5)])) _
  refine XS.icmpYes X0.here hx rfl (pc0 := 338) (pc' := 360) rfl (hb hby at_338) rfl (feq hc338).2 (by decide) (by decide) ?_
  show Steps p.tables e below (T0.setTop (mkF m 360 #[s0, s1, s2, s3, s4, .val (.int i5), .val (.int i6), .val (.int i7), s8, s9, s10, s11, s12, s13, s14, .val (.int (1 : Int32)), .unset, .unset, .unset, .unset] [])) _
  refine XS.iload X0.here hx rfl (hb hby at_360) rfl ?_
  show Steps p.tables e below (T0.setTop (mkF m 362 #[s0, s1, s2, s3, s4, .val (.int i5), .val (.int i6), .val (.int i7), s8, s9, s10, s11, s12, s13, s14, .val (.int (1 : Int32)), .unset, .unset, .unset, .unset] [(.int i5)])) _
  refine XS.iconst X0.here hx rfl (hb hby at_362) ?_
  show Steps p.tables e below (T0.setTop (mkF m 363 #[s0, s1, s2, s3, s4, .val (.int i5), .val (.int i6), .val (.int i7), s8, s9, s10, s11, s12, s13, s14, .val (.int (1 : Int32)), .unset, .unset, .unset, .unset] [(.int (3 : Int32)), (.int i5)])) _
  refine XS.icmpYes X0.here hx rfl (pc0 := 363) (pc' := 385) rfl (hb hby at_363) rfl (feq hc363).2 (by decide) (by decide) ?_
  show Steps p.tables e below (T0.setTop (mkF m 385 #[s0, s1, s2, s3, s4, .val (.int i5), .val (.int i6), .val (.int i7), s8, s9, s10, s11, s12, s13, s14, .val (.int (1 : Int32)), .unset, .unset, .unset, .unset] [])) _
  refine XS.iload X0.here hx rfl (hb hby at_385) rfl ?_
  show Steps p.tables e below (T0.setTop (mkF m 387 #[s0, s1, s2, s3, s4, .val (.int i5), .val (.int i6), .val (.int i7), s8, s9, s10, s11, s12, s13, s14, .val (.int (1 : Int32)), .unset, .unset, .unset, .unset] [(.int (1 : Int32))])) _
  refine XS.ifNo X0.here hx rfl (hb hby at_387) rfl ((if0 _ _).trans (feq (by decide : ¬ ((1 : Int32) = (0 : Int32)))).1) ?_
  show Steps p.tables e below (T0.setTop (mkF m 390 #[s0, s1, s2, s3, s4, .val (.int i5), .val (.int i6), .val (.int i7), s8, s9, s10, s11, s12, s13, s14, .val (.int (1 : Int32)), .unset, .unset, .unset, .unset] [])) _
  refine XS.dconst1 X0.here hx rfl (hb hby at_390) rfl ?_
  show Steps p.tables e below (T0.setTop (mkF m 391 #[s0, s1, s2, s3, s4, .val (.int i5), .val (.int i6), .val (.int i7), s8, s9, s10, s11, s12, s13, s14, .val (.int (1 : Int32)), .unset, .unset, .unset, .unset] [(.double FP.dconst1)])) _
  refine XS.goto X0.here hx rfl (pc0 := 391) (pc' := 395) rfl (hb hby at_391) (by decide) (by decide) ?_
  show Steps p.tables e below (T0.setTop (mkF m 395 #[s0, s1, s2, s3, s4, .val (.int i5), .val (.int i6), .val (.int i7), s8, s9, s10, s11, s12, s13, s14, .val (.int (1 : Int32)), .unset, .unset, .unset, .unset] [(.double FP.dconst1)])) _
  refine XS.dstore X0.here hx rfl (hb hby at_395) rfl (l' := #[s0, s1, s2, s3, s4, .val (.int i5), .val (.int i6), .val (.int i7), s8, s9, s10, s11, s12, s13, s14, .val (.int (1 : Int32)), .val (.double FP.dconst1), .second, .unset, .unset]) rfl ?_
  exact kt
theorem own_go {p : Program} {l : Launch} {e : Env} {s : State} {m : MethodId} {args : Array Value} {below : List Frame} {meth : Method} {c : Code} {n0 : Nat} {T0 : State} {locs : List Loc} {ce sl : Nat} {h0 : Heap} {f : JFrame} {L : Array Slot} {g x : UInt64} (h : ∃ T' : State, Stand p l e ({ frames := 5, cells := 16, slots := 128, locals := 128 } : Room) s m args below meth c T' locs ce sl ∧ T'.heap = h0 ∧ ∀ target, Steps p.tables e below (T'.setTop (mkF m 397 L [])) target → Steps p.tables e below (T0.setTop f) target) (hx : p.tables.exec = Jvm.exec) (hby : c.code = code) (h13 : L[13]? = some (.val (.double g))) (h16 : L[16]? = some (.val (.double x))) (hc : cmpValue (FP.dcmp g x) .l = (0 : Int32)) (hce : ce ≤ 16) (hsl : sl ≤ 128) (N : Fr n0 locs) : Goes p l e s m args below meth c n0 T0 f := by
  obtain ⟨T', X0, -, st⟩ := h
  refine ⟨T', locs, ce, sl, L, X0, hce, hsl, N, fun target kt => st _ ?_⟩
  refine s_dload X0.here hx (hb hby at_397) h13 ?_
  refine s_dload X0.here hx (hb hby at_399) h16 ?_
  refine s_dcmp X0.here hx (hb hby at_401) hc ?_
  refine s_ifN X0.here hx (hb hby at_402) (by decide) ?_
  refine s_iconst X0.here hx (hb hby at_405) rfl ?_
  refine s_goto X0.here hx (pc' := 410) (hb hby at_406) (by decide) (by decide) ?_
  exact kt
theorem own_then {p : Program} {l : Launch} {e : Env} {s : State} {m : MethodId} {args : Array Value} {below : List Frame} {meth : Method} {c : Code} {T0 : State} {locs : List Loc} {ce sl : Nat} {h0 : Heap} {f f1 f2 : JFrame} (h : ∃ T' : State, Stand p l e ({ frames := 5, cells := 16, slots := 128, locals := 128 } : Room) s m args below meth c T' locs ce sl ∧ T'.heap = h0 ∧ ∀ target, Steps p.tables e below (T'.setTop f1) target → Steps p.tables e below (T0.setTop f) target)
    (k : ∀ T' : State, Stand p l e ({ frames := 5, cells := 16, slots := 128, locals := 128 } : Room) s m args below meth c T' locs ce sl → T'.heap = h0 → ∃ T2 : State, Stand p l e ({ frames := 5, cells := 16, slots := 128, locals := 128 } : Room) s m args below meth c T2 locs ce sl ∧ T2.heap = h0 ∧ ∀ target, Steps p.tables e below (T2.setTop f2) target → Steps p.tables e below (T'.setTop f1) target) : ∃ T2 : State, Stand p l e ({ frames := 5, cells := 16, slots := 128, locals := 128 } : Room) s m args below meth c T2 locs ce sl ∧ T2.heap = h0 ∧ ∀ target, Steps p.tables e below (T2.setTop f2) target → Steps p.tables e below (T0.setTop f) target := by
  obtain ⟨T', X, e', st⟩ := h
  obtain ⟨T2, X2, e2, st2⟩ := k T' X e'
  exact ⟨T2, X2, e2, fun t q => st _ (st2 _ q)⟩
theorem own_s2 {p : Program} {l : Launch} {e : Env} {s : State} {m : MethodId} {args : Array Value} {below : List Frame} {meth : Method} {c : Code} {n0 : Nat} {T0 : State} {sl : Nat} {h0 : Heap} {f f1 : JFrame} (h : ∃ (T' : State) (locs' : List Loc), Stand p l e ({ frames := 5, cells := 16, slots := 128, locals := 128 } : Room) s m args below meth c T' locs' 1 sl ∧ T'.heap = h0 ∧ Fr n0 locs' ∧ ∀ target, Steps p.tables e below (T'.setTop f1) target → Steps p.tables e below (T0.setTop f) target)
    (k : ∀ (T' : State) (locs' : List Loc), Stand p l e ({ frames := 5, cells := 16, slots := 128, locals := 128 } : Room) s m args below meth c T' locs' 1 sl → T'.heap = h0 → Fr n0 locs' → Goes p l e s m args below meth c n0 T' f1) : Goes p l e s m args below meth c n0 T0 f := by
  obtain ⟨T', locs', X, e', N', st⟩ := h
  obtain ⟨T2, l2, c2, s2, L2, X2, a, b, N2, st2⟩ := k T' locs' X e' N'
  exact ⟨T2, l2, c2, s2, L2, X2, a, b, N2, fun t q => st _ (st2 _ q)⟩
theorem own_c10 : Dy 10 0 (4621819117588971520 : UInt64) := by
  have h : FP.l2d 10 = (4621819117588971520 : UInt64) := by decide +kernel
  have q := Dy.l2d (i := 10) (by decide)
  rw [h] at q; exact q
theorem own_i1 : FP.i2d (1 : Int32) = FP.dconst1 := by decide +kernel
theorem own_i2 : FP.i2d (2 : Int32) = (4611686018427387904 : UInt64) := by decide +kernel
theorem own_i3 : FP.i2d (3 : Int32) = (4613937818241073152 : UInt64) := by decide +kernel
theorem own_n10 (j : Int32) : Jvm.Free.Fl.NoNaN64 (FP.ddiv (FP.i2d j) (4621819117588971520 : UInt64)) := Jvm.Free.Fl.ddiv_out (Dy.i2d j).nn (own_fin64 own_c10.fin) (own_nz64 own_c10.fin (Int.ne_of_gt (own_c10.pos (by decide))))
theorem own_D {N : Int} {a : UInt64} {r : Int32} (A : Dy N 0 a) (h1 : 1 ≤ N) (h3 : N ≤ 3) (hr : 1 ≤ r.toInt) : Jvm.FP.Core.DFin (FP.ddiv a (FP.i2d r)) ∧ 0 < own_z (FP.ddiv a (FP.i2d r)) := by
  have B := Dy.i2d r
  have hl := Int32.toInt_lt r
  have nn := own_div_nn A.fin B.fin (Int.ne_of_gt (B.pos (by omega)))
  have lo := A.div_ge B (N := 1) (r := 31) (by omega) (by decide) (by decide) (by rw [show ((2 ^ 31 : Nat) : Int) = 2147483648 from rfl]; omega)
  have up := A.div_le B (N := 3) (r := 0) (by omega) (by decide) (by decide) (by rw [show ((2 ^ 0 : Nat) : Int) = 1 from rfl]; omega)
  have p := own_pow_pos (1074 - 31)
  have p0 := own_pow_pos (1074 - 0)
  refine ⟨own_fin nn (N := 3) (j := 1074 - 0) (by decide) (by decide) ?_ up, by rw [Int.one_mul] at lo; exact Int.lt_of_lt_of_le p lo⟩
  rw [Int.one_mul] at lo
  omega
theorem own_plain {r0 r1 r2 rel : Int32} (q0 : 1 ≤ r0.toInt) (q1 : 1 ≤ r1.toInt) (q2 : 1 ≤ r2.toInt) (qr : 1 ≤ rel.toInt) : FP.dadd FP.dconst0 (FP.ddiv FP.dconst1 (FP.i2d r0)) = (FP.ddiv FP.dconst1 (FP.i2d r0)) ∧ Jvm.Free.Fl.NoNaN64 (FP.ddiv FP.dconst1 (FP.i2d r0)) ∧ Jvm.Free.Fl.NoNaN64 (FP.ddiv (4611686018427387904 : UInt64) (FP.i2d r1)) ∧ Jvm.Free.Fl.NoNaN64 (FP.ddiv (4613937818241073152 : UInt64) (FP.i2d r2)) ∧ Jvm.Free.Fl.NoNaN64 (FP.dadd (FP.ddiv FP.dconst1 (FP.i2d r0)) (FP.ddiv (4611686018427387904 : UInt64) (FP.i2d r1))) ∧ Jvm.Free.Fl.NoNaN64 (FP.dadd (FP.dadd (FP.ddiv FP.dconst1 (FP.i2d r0)) (FP.ddiv (4611686018427387904 : UInt64) (FP.i2d r1))) (FP.ddiv (4613937818241073152 : UInt64) (FP.i2d r2))) ∧ Jvm.Free.Fl.NoNaN64 (FP.ddiv FP.dconst0 (FP.i2d rel)) ∧ Jvm.Free.Fl.NoNaN64 (FP.ddiv (FP.ddiv FP.dconst1 (FP.i2d r0)) (FP.i2d rel)) ∧ Jvm.Free.Fl.NoNaN64 (FP.ddiv (FP.dadd (FP.ddiv FP.dconst1 (FP.i2d r0)) (FP.ddiv (4611686018427387904 : UInt64) (FP.i2d r1))) (FP.i2d rel)) ∧ Jvm.Free.Fl.NoNaN64 (FP.ddiv (FP.dadd (FP.dadd (FP.ddiv FP.dconst1 (FP.i2d r0)) (FP.ddiv (4611686018427387904 : UInt64) (FP.i2d r1))) (FP.ddiv (4613937818241073152 : UInt64) (FP.i2d r2))) (FP.i2d rel)) := by
  have T2 : Dy 2 0 (4611686018427387904 : UInt64) := own_i2 ▸ Dy.i2d 2
  have T3 : Dy 3 0 (4613937818241073152 : UInt64) := own_i3 ▸ Dy.i2d 3
  obtain ⟨f1, z1⟩ := own_D Dy.one (by decide) (by decide) q0
  obtain ⟨f2, z2⟩ := own_D T2 (by decide) (by decide) q1
  obtain ⟨f3, z3⟩ := own_D T3 (by decide) (by decide) q2
  have B := Dy.i2d rel
  have d : ∀ {x : UInt64}, Jvm.Free.Fl.NoNaN64 x → Jvm.Free.Fl.NoNaN64 (FP.ddiv x (FP.i2d rel)) := fun h => Jvm.Free.Fl.ddiv_out h (own_fin64 B.fin) (own_nz64 B.fin (Int.ne_of_gt (B.pos (by omega))))
  have s2 := Jvm.Free.Fl.dadd_out (own_nn f1) (own_fin64 f2)
  have s3 := Jvm.Free.Fl.dadd_out s2 (own_fin64 f3)
  have e : FP.dadd FP.dconst0 (FP.ddiv FP.dconst1 (FP.i2d r0)) = (FP.ddiv FP.dconst1 (FP.i2d r0)) := by
    have h := Jvm.FP.Core.dadd_zero f1.ne_nan (fun z => by rw [z] at z1; exact absurd z1 (by decide +kernel))
    exact (Jvm.FP.Core.dadd_comm _ _).trans h
  exact ⟨e, own_nn f1, own_nn f2, own_nn f3, s2, s3, d (Dy.zero 0).nn, d (own_nn f1), d s2, d s3⟩
set_option maxRecDepth 65536 in
set_option maxHeartbeats 40000000 in
theorem c100_0 {p : Program} {l : Launch} {e : Env} {s : State} {m : MethodId} {args : Array Value} {below : List Frame} {meth : Method} {c : Code} {n0 : Nat} {T0 : State} {locs : List Loc} {Z : State} {a0 : Array Value} {h0 : Heap} (i0 i1 i2 i3 i4 kd r0 r1 r2 rel : Int32) (b w0 w1 w2 w3 w4 : Addr) (cl : Cell) (X0 : Stand p l e ({ frames := 5, cells := 16, slots := 128, locals := 128 } : Room) s m args below meth c T0 locs 1 0) (hx : p.tables.exec = Jvm.exec) (hZ : Z.Warmed39 s.vm) (hw : ∀ d ∈ tables_1, d.before a0 Z = true) (hby : c.code = code) (hml : c.maxLocals = 20) (hown : s.vm.findClass "com/example/pesquisa/pesquisa/MeasureScorePinLaw" = some m.cls) (e0 : T0.heap = h0) (N0 : Fr n0 locs) (Z0 : n0 ≤ h0.size) (Ar : Arr Z h0 b cl .int) (R : RK 0 cl r0 r1 r2)
    (hk : kd = (0 : Int32) ∨ kd = (1 : Int32) ∨ kd = (2 : Int32) ∨ kd = (3 : Int32) ∨ kd = (4 : Int32)) (q0 : 1 ≤ r0.toInt) (q1 : r0.toInt < r1.toInt) (q2 : r1.toInt < r2.toInt) (qr : 1 ≤ rel.toInt) (S0 : Sta Z h0 "com/example/pesquisa/pesquisa/Measure" "AVERAGE_PRECISION" "Lcom/example/pesquisa/pesquisa/Measure;" (.ref w0)) (E0 : Exa Z h0 w0 "com/example/pesquisa/pesquisa/Measure") (O0 : Fld Z h0 w0 "java/lang/Enum" "ordinal" "I" (.int (0 : Int32))) (S1 : Sta Z h0 "com/example/pesquisa/pesquisa/Measure" "PRECISION_AT_10" "Lcom/example/pesquisa/pesquisa/Measure;" (.ref w1)) (E1 : Exa Z h0 w1 "com/example/pesquisa/pesquisa/Measure") (O1 : Fld Z h0 w1 "java/lang/Enum" "ordinal" "I" (.int (1 : Int32))) (S2 : Sta Z h0 "com/example/pesquisa/pesquisa/Measure" "RECIPROCAL_RANK" "Lcom/example/pesquisa/pesquisa/Measure;" (.ref w2)) (E2 : Exa Z h0 w2 "com/example/pesquisa/pesquisa/Measure") (O2 : Fld Z h0 w2 "java/lang/Enum" "ordinal" "I" (.int (2 : Int32))) (S3 : Sta Z h0 "com/example/pesquisa/pesquisa/Measure" "RECIPROCAL_RANK_AT_10" "Lcom/example/pesquisa/pesquisa/Measure;" (.ref w3)) (E3 : Exa Z h0 w3 "com/example/pesquisa/pesquisa/Measure") (O3 : Fld Z h0 w3 "java/lang/Enum" "ordinal" "I" (.int (3 : Int32))) (S4 : Sta Z h0 "com/example/pesquisa/pesquisa/Measure" "SUCCESS_AT_10" "Lcom/example/pesquisa/pesquisa/Measure;" (.ref w4)) (E4 : Exa Z h0 w4 "com/example/pesquisa/pesquisa/Measure") (O4 : Fld Z h0 w4 "java/lang/Enum" "ordinal" "I" (.int (4 : Int32))) :
    Goes p l e s m args below meth c n0 T0 (mkF m 100 #[.val (.int i0), .val (.int i1), .val (.int i2), .val (.int i3), .val (.int i4), .val (.int kd), .val (.int (0 : Int32)), .val (.int r0), .val (.int r1), .val (.int r2), .val (.int rel), .val (.ref b), .unset, .unset, .unset, .unset, .unset, .unset, .unset, .unset] []) := by
  obtain ⟨e01, nD1, nD2, nD3, nS2, nS3, nE0, nE1, nE2, nE3⟩ := own_plain q0 (show 1 ≤ r1.toInt by omega) (show 1 ≤ r2.toInt by omega) qr
  rcases hk with rfl | rfl | rfl | rfl | rfl
  · exact own_s2 (s2_0 n0 (FP.ddiv FP.dconst0 (FP.i2d rel)) (.val (.int i0)) (.val (.int i1)) (.val (.int i2)) (.val (.int i3)) (.val (.int i4)) (0 : Int32) (.val (.int (0 : Int32))) (.val (.int r0)) (.val (.int r1)) (.val (.int r2)) rel b w0 X0 hx hZ hw hby hml hown e0 S0 E0 (by decide) N0 (by decide) (rm3_0t l Z a0 hw [] w0 b rel cl (0 : Int32) (FP.ddiv FP.dconst0 (FP.i2d rel)) h0 n0 Z0 Ar R.1 (by decide) E0 (by decide) O0 (rm5_0 l Z a0 hw [] b rel cl (FP.ddiv FP.dconst0 (FP.i2d rel)) h0 n0 Z0 Ar R.1 (by decide) rfl nE0))) (fun T1 locs1 X1 e1 N1 => own_go (tl0_0 (.val (.int i0)) (.val (.int i1)) (.val (.int i2)) (.val (.int i3)) (.val (.int i4)) (0 : Int32) (0 : Int32) (.val (.int r0)) (.val (.int r1)) (.val (.int r2)) rel (.val (.ref b)) (.val (.ref w0)) (.val (.double (FP.ddiv FP.dconst0 (FP.i2d rel)))) .second (FP.ddiv FP.dconst0 (FP.i2d rel)) X1 hx hZ hw hby hml hown e1 (by decide) (by decide) (by decide) (by decide) (by decide) rfl nE0) hx hby rfl rfl (dcmpV_self nE0 .l) (by decide) (by decide) N1)
  · exact own_s2 (s2_1 n0 (FP.ddiv (FP.i2d (0 : Int32)) (4621819117588971520 : UInt64)) (.val (.int i0)) (.val (.int i1)) (.val (.int i2)) (.val (.int i3)) (.val (.int i4)) (1 : Int32) (.val (.int (0 : Int32))) (.val (.int r0)) (.val (.int r1)) (.val (.int r2)) rel b w1 X0 hx hZ hw hby hml hown e0 S1 E1 (by decide) (by decide) N0 (by decide) (rm3_1t l Z a0 hw [] w1 b rel cl (0 : Int32) (FP.ddiv (FP.i2d (0 : Int32)) (4621819117588971520 : UInt64)) (0 : Int32) h0 n0 Z0 Ar R.1 (by decide) E1 (by decide) rfl (own_n10 _) O1 (rm6_0 l Z a0 hw [] b (10 : Int32) cl h0 n0 Z0 Ar R.1 (by decide)))) (fun T1 locs1 X1 e1 N1 => own_go (own_then (tl1_t (.val (.int i0)) (.val (.int i1)) (.val (.int i2)) (.val (.int i3)) (.val (.int i4)) (1 : Int32) (0 : Int32) (.val (.int r0)) (.val (.int r1)) (.val (.int r2)) (.val (.int rel)) (.val (.ref b)) (.val (.ref w1)) (.val (.double (FP.ddiv (FP.i2d (0 : Int32)) (4621819117588971520 : UInt64)))) .second X1 hx hZ hw hby hml hown e1 (by decide) (by decide) (by decide)) (fun T2 X2 e2 => own_then (b267 _ _ _ _ _ _ (0 : Int32) r0 _ _ _ _ _ _ _ _ _ _ (0 : Int32) (0 : Int32) X2 hx hZ hw hby hml hown e2 (if_neg (by decide))) (fun T3 X3 e3 => own_then (b285 _ _ _ _ _ _ (0 : Int32) _ r1 _ _ _ _ _ _ _ _ _ (0 : Int32) (0 : Int32) X3 hx hZ hw hby hml hown e3 (if_neg (by decide))) (fun T4 X4 e4 => own_then (b304 _ _ _ _ _ _ (0 : Int32) _ _ r2 _ _ _ _ _ _ _ _ (0 : Int32) (0 : Int32) X4 hx hZ hw hby hml hown e4 (if_neg (by decide))) (fun T5 X5 e5 => tl1_e _ _ _ _ _ _ _ _ _ _ _ _ _ _ _ _ (0 : Int32) (FP.ddiv (FP.i2d (0 : Int32)) (4621819117588971520 : UInt64)) X5 hx hZ hw hby hml hown e5 rfl (own_n10 _)))))) hx hby rfl rfl (dcmpV_self (own_n10 _) .l) (by decide) (by decide) N1)
  · exact own_s2 (s2_2 n0 FP.dconst0 (.val (.int i0)) (.val (.int i1)) (.val (.int i2)) (.val (.int i3)) (.val (.int i4)) (2 : Int32) (.val (.int (0 : Int32))) (.val (.int r0)) (.val (.int r1)) (.val (.int r2)) rel b w2 X0 hx hZ hw hby hml hown e0 S2 E2 (by decide) (by decide) (by decide) N0 (by decide) (rm3_2t l Z a0 hw [] w2 b rel cl (0 : Int32) h0 n0 Z0 Ar R.1 (by decide) E2 (by decide) O2)) (fun T1 locs1 X1 e1 N1 => own_go (tl2_t (.val (.int i0)) (.val (.int i1)) (.val (.int i2)) (.val (.int i3)) (.val (.int i4)) (2 : Int32) (0 : Int32) (.val (.int r0)) (.val (.int r1)) (.val (.int r2)) (.val (.int rel)) (.val (.ref b)) (.val (.ref w2)) (.val (.double FP.dconst0)) .second X1 hx hZ hw hby hml hown e1 (by decide) (by decide) (by decide) (by decide) (by decide)) hx hby rfl rfl (dcmpV_self (Dy.zero 0).nn .l) (by decide) (by decide) N1)
  · exact own_s2 (s2_3 n0 FP.dconst0 (.val (.int i0)) (.val (.int i1)) (.val (.int i2)) (.val (.int i3)) (.val (.int i4)) (3 : Int32) (.val (.int (0 : Int32))) (.val (.int r0)) (.val (.int r1)) (.val (.int r2)) rel b w3 X0 hx hZ hw hby hml hown e0 S3 E3 (by decide) (by decide) (by decide) (by decide) N0 (by decide) (rm3_3t l Z a0 hw [] w3 b rel cl (0 : Int32) h0 n0 Z0 Ar R.1 (by decide) E3 (by decide) O3)) (fun T1 locs1 X1 e1 N1 => own_go (tl3_t (.val (.int i0)) (.val (.int i1)) (.val (.int i2)) (.val (.int i3)) (.val (.int i4)) (3 : Int32) (0 : Int32) (.val (.int r0)) (.val (.int r1)) (.val (.int r2)) (.val (.int rel)) (.val (.ref b)) (.val (.ref w3)) (.val (.double FP.dconst0)) .second X1 hx hZ hw hby hml hown e1 (by decide) (by decide) (by decide) (by decide) (by decide)) hx hby rfl rfl (dcmpV_self (Dy.zero 0).nn .l) (by decide) (by decide) N1)
  · exact own_s2 (s2_4 n0 FP.dconst0 (.val (.int i0)) (.val (.int i1)) (.val (.int i2)) (.val (.int i3)) (.val (.int i4)) (4 : Int32) (.val (.int (0 : Int32))) (.val (.int r0)) (.val (.int r1)) (.val (.int r2)) rel b w4 X0 hx hZ hw hby hml hown e0 S4 E4 (by decide) (by decide) (by decide) (by decide) N0 (by decide) (rm3_4t l Z a0 hw [] w4 b rel cl (0 : Int32) h0 n0 Z0 Ar R.1 (by decide) E4 (by decide) O4)) (fun T1 locs1 X1 e1 N1 => own_go (tl4_t (.val (.int i0)) (.val (.int i1)) (.val (.int i2)) (.val (.int i3)) (.val (.int i4)) (4 : Int32) (0 : Int32) (.val (.int r0)) (.val (.int r1)) (.val (.int r2)) (.val (.int rel)) (.val (.ref b)) (.val (.ref w4)) (.val (.double FP.dconst0)) .second X1 hx hZ hw hby hml hown e1 (by decide) (by decide) (by decide) (by decide) (by decide)) hx hby rfl rfl (dcmpV_self (Dy.zero 0).nn .l) (by decide) (by decide) N1)
set_option maxRecDepth 65536 in
set_option maxHeartbeats 40000000 in
theorem c100_1 {p : Program} {l : Launch} {e : Env} {s : State} {m : MethodId} {args : Array Value} {below : List Frame} {meth : Method} {c : Code} {n0 : Nat} {T0 : State} {locs : List Loc} {Z : State} {a0 : Array Value} {h0 : Heap} (i0 i1 i2 i3 i4 kd r0 r1 r2 rel : Int32) (b w0 w1 w2 w3 w4 : Addr) (cl : Cell) (X0 : Stand p l e ({ frames := 5, cells := 16, slots := 128, locals := 128 } : Room) s m args below meth c T0 locs 1 1) (hx : p.tables.exec = Jvm.exec) (hZ : Z.Warmed39 s.vm) (hw : ∀ d ∈ tables_1, d.before a0 Z = true) (hby : c.code = code) (hml : c.maxLocals = 20) (hown : s.vm.findClass "com/example/pesquisa/pesquisa/MeasureScorePinLaw" = some m.cls) (e0 : T0.heap = h0) (N0 : Fr n0 locs) (Z0 : n0 ≤ h0.size) (Ar : Arr Z h0 b cl .int) (R : RK 1 cl r0 r1 r2)
    (hk : kd = (0 : Int32) ∨ kd = (1 : Int32) ∨ kd = (2 : Int32) ∨ kd = (3 : Int32) ∨ kd = (4 : Int32)) (q0 : 1 ≤ r0.toInt) (q1 : r0.toInt < r1.toInt) (q2 : r1.toInt < r2.toInt) (qr : 1 ≤ rel.toInt) (S0 : Sta Z h0 "com/example/pesquisa/pesquisa/Measure" "AVERAGE_PRECISION" "Lcom/example/pesquisa/pesquisa/Measure;" (.ref w0)) (E0 : Exa Z h0 w0 "com/example/pesquisa/pesquisa/Measure") (O0 : Fld Z h0 w0 "java/lang/Enum" "ordinal" "I" (.int (0 : Int32))) (S1 : Sta Z h0 "com/example/pesquisa/pesquisa/Measure" "PRECISION_AT_10" "Lcom/example/pesquisa/pesquisa/Measure;" (.ref w1)) (E1 : Exa Z h0 w1 "com/example/pesquisa/pesquisa/Measure") (O1 : Fld Z h0 w1 "java/lang/Enum" "ordinal" "I" (.int (1 : Int32))) (S2 : Sta Z h0 "com/example/pesquisa/pesquisa/Measure" "RECIPROCAL_RANK" "Lcom/example/pesquisa/pesquisa/Measure;" (.ref w2)) (E2 : Exa Z h0 w2 "com/example/pesquisa/pesquisa/Measure") (O2 : Fld Z h0 w2 "java/lang/Enum" "ordinal" "I" (.int (2 : Int32))) (S3 : Sta Z h0 "com/example/pesquisa/pesquisa/Measure" "RECIPROCAL_RANK_AT_10" "Lcom/example/pesquisa/pesquisa/Measure;" (.ref w3)) (E3 : Exa Z h0 w3 "com/example/pesquisa/pesquisa/Measure") (O3 : Fld Z h0 w3 "java/lang/Enum" "ordinal" "I" (.int (3 : Int32))) (S4 : Sta Z h0 "com/example/pesquisa/pesquisa/Measure" "SUCCESS_AT_10" "Lcom/example/pesquisa/pesquisa/Measure;" (.ref w4)) (E4 : Exa Z h0 w4 "com/example/pesquisa/pesquisa/Measure") (O4 : Fld Z h0 w4 "java/lang/Enum" "ordinal" "I" (.int (4 : Int32))) :
    Goes p l e s m args below meth c n0 T0 (mkF m 100 #[.val (.int i0), .val (.int i1), .val (.int i2), .val (.int i3), .val (.int i4), .val (.int kd), .val (.int (1 : Int32)), .val (.int r0), .val (.int r1), .val (.int r2), .val (.int rel), .val (.ref b), .unset, .unset, .unset, .unset, .unset, .unset, .unset, .unset] []) := by
  obtain ⟨e01, nD1, nD2, nD3, nS2, nS3, nE0, nE1, nE2, nE3⟩ := own_plain q0 (show 1 ≤ r1.toInt by omega) (show 1 ≤ r2.toInt by omega) qr
  by_cases c0 : (10 : Int32) < r0
  · rcases hk with rfl | rfl | rfl | rfl | rfl
    · exact own_s2 (s2_0 n0 (FP.ddiv (FP.ddiv FP.dconst1 (FP.i2d r0)) (FP.i2d rel)) (.val (.int i0)) (.val (.int i1)) (.val (.int i2)) (.val (.int i3)) (.val (.int i4)) (0 : Int32) (.val (.int (1 : Int32))) (.val (.int r0)) (.val (.int r1)) (.val (.int r2)) rel b w0 X0 hx hZ hw hby hml hown e0 S0 E0 (by decide) N0 (by decide) (rm3_0ft l Z a0 hw [] w0 b rel cl (1 : Int32) r0 (FP.ddiv (FP.ddiv FP.dconst1 (FP.i2d r0)) (FP.i2d rel)) h0 n0 Z0 Ar R.1 (by decide) (fun q => q.elim (by decide) (fun q => by rw [R.1] at q; exact absurd q (by decide))) (R.2.1 (by decide)) E0 (by decide) c0 O0 (rm5_1 l Z a0 hw [] b rel cl r0 (FP.ddiv FP.dconst1 (FP.i2d r0)) (FP.ddiv FP.dconst1 (FP.i2d r0)) (FP.ddiv (FP.ddiv FP.dconst1 (FP.i2d r0)) (FP.i2d rel)) h0 n0 Z0 Ar R.1 (by decide) (fun q => q.elim (by decide) (fun q => by rw [R.1] at q; exact absurd q (by decide))) (R.2.1 (by decide)) (congrArg (fun z => FP.ddiv z (FP.i2d r0)) own_i1) (by rw [own_i1]; exact nD1) e01 (by rw [e01]; exact nD1) rfl nE1))) (fun T1 locs1 X1 e1 N1 => own_go (tl0_1 (.val (.int i0)) (.val (.int i1)) (.val (.int i2)) (.val (.int i3)) (.val (.int i4)) (0 : Int32) (1 : Int32) r0 (.val (.int r1)) (.val (.int r2)) rel (.val (.ref b)) (.val (.ref w0)) (.val (.double (FP.ddiv (FP.ddiv FP.dconst1 (FP.i2d r0)) (FP.i2d rel)))) .second (FP.ddiv FP.dconst1 (FP.i2d r0)) (FP.ddiv (FP.ddiv FP.dconst1 (FP.i2d r0)) (FP.i2d rel)) X1 hx hZ hw hby hml hown e1 (by decide) (by decide) (by decide) rfl nD1 (by decide) (by decide) rfl nE1) hx hby rfl rfl (dcmpV_self nE1 .l) (by decide) (by decide) N1)
    · exact own_s2 (s2_1 n0 (FP.ddiv (FP.i2d (0 : Int32)) (4621819117588971520 : UInt64)) (.val (.int i0)) (.val (.int i1)) (.val (.int i2)) (.val (.int i3)) (.val (.int i4)) (1 : Int32) (.val (.int (1 : Int32))) (.val (.int r0)) (.val (.int r1)) (.val (.int r2)) rel b w1 X0 hx hZ hw hby hml hown e0 S1 E1 (by decide) (by decide) N0 (by decide) (rm3_1ft l Z a0 hw [] w1 b rel cl (1 : Int32) r0 (FP.ddiv (FP.i2d (0 : Int32)) (4621819117588971520 : UInt64)) (0 : Int32) h0 n0 Z0 Ar R.1 (by decide) (fun q => q.elim (by decide) (fun q => by rw [R.1] at q; exact absurd q (by decide))) (R.2.1 (by decide)) E1 (by decide) c0 rfl (own_n10 _) O1 (rm6_1t l Z a0 hw [] b (10 : Int32) cl r0 h0 n0 Z0 Ar R.1 (by decide) (fun q => q.elim (by decide) (fun q => by rw [R.1] at q; exact absurd q (by decide))) (R.2.1 (by decide)) c0))) (fun T1 locs1 X1 e1 N1 => own_go (own_then (tl1_f (.val (.int i0)) (.val (.int i1)) (.val (.int i2)) (.val (.int i3)) (.val (.int i4)) (1 : Int32) (1 : Int32) r0 (.val (.int r1)) (.val (.int r2)) (.val (.int rel)) (.val (.ref b)) (.val (.ref w1)) (.val (.double (FP.ddiv (FP.i2d (0 : Int32)) (4621819117588971520 : UInt64)))) .second X1 hx hZ hw hby hml hown e1 (by decide) (by decide) (by decide)) (fun T2 X2 e2 => own_then (b267 _ _ _ _ _ _ (1 : Int32) r0 _ _ _ _ _ _ _ _ _ _ (0 : Int32) (0 : Int32) X2 hx hZ hw hby hml hown e2 ((if_pos (by decide)).trans (if_pos c0))) (fun T3 X3 e3 => own_then (b285 _ _ _ _ _ _ (1 : Int32) _ r1 _ _ _ _ _ _ _ _ _ (0 : Int32) (0 : Int32) X3 hx hZ hw hby hml hown e3 (if_neg (by decide))) (fun T4 X4 e4 => own_then (b304 _ _ _ _ _ _ (1 : Int32) _ _ r2 _ _ _ _ _ _ _ _ (0 : Int32) (0 : Int32) X4 hx hZ hw hby hml hown e4 (if_neg (by decide))) (fun T5 X5 e5 => tl1_e _ _ _ _ _ _ _ _ _ _ _ _ _ _ _ _ (0 : Int32) (FP.ddiv (FP.i2d (0 : Int32)) (4621819117588971520 : UInt64)) X5 hx hZ hw hby hml hown e5 rfl (own_n10 _)))))) hx hby rfl rfl (dcmpV_self (own_n10 _) .l) (by decide) (by decide) N1)
    · exact own_s2 (s2_2 n0 (FP.ddiv FP.dconst1 (FP.i2d r0)) (.val (.int i0)) (.val (.int i1)) (.val (.int i2)) (.val (.int i3)) (.val (.int i4)) (2 : Int32) (.val (.int (1 : Int32))) (.val (.int r0)) (.val (.int r1)) (.val (.int r2)) rel b w2 X0 hx hZ hw hby hml hown e0 S2 E2 (by decide) (by decide) (by decide) N0 (by decide) (rm3_2ft l Z a0 hw [] w2 b rel cl (1 : Int32) r0 r0 (FP.ddiv FP.dconst1 (FP.i2d r0)) h0 n0 Z0 Ar R.1 (by decide) (fun q => q.elim (by decide) (fun q => by rw [R.1] at q; exact absurd q (by decide))) (R.2.1 (by decide)) E2 (fun q => q.elim (by decide) (fun q => by rw [R.1] at q; exact absurd q (by decide))) (R.2.1 (by decide)) (by decide) c0 rfl nD1 O2)) (fun T1 locs1 X1 e1 N1 => own_go (tl2_f (.val (.int i0)) (.val (.int i1)) (.val (.int i2)) (.val (.int i3)) (.val (.int i4)) (2 : Int32) (1 : Int32) r0 (.val (.int r1)) (.val (.int r2)) (.val (.int rel)) (.val (.ref b)) (.val (.ref w2)) (.val (.double (FP.ddiv FP.dconst1 (FP.i2d r0)))) .second (FP.ddiv FP.dconst1 (FP.i2d r0)) X1 hx hZ hw hby hml hown e1 (by decide) (by decide) (by decide) (by decide) (by decide) rfl nD1) hx hby rfl rfl (dcmpV_self nD1 .l) (by decide) (by decide) N1)
    · exact own_s2 (s2_3 n0 FP.dconst0 (.val (.int i0)) (.val (.int i1)) (.val (.int i2)) (.val (.int i3)) (.val (.int i4)) (3 : Int32) (.val (.int (1 : Int32))) (.val (.int r0)) (.val (.int r1)) (.val (.int r2)) rel b w3 X0 hx hZ hw hby hml hown e0 S3 E3 (by decide) (by decide) (by decide) (by decide) N0 (by decide) (rm3_3ft l Z a0 hw [] w3 b rel cl (1 : Int32) r0 h0 n0 Z0 Ar R.1 (by decide) (fun q => q.elim (by decide) (fun q => by rw [R.1] at q; exact absurd q (by decide))) (R.2.1 (by decide)) E3 (by decide) c0 O3)) (fun T1 locs1 X1 e1 N1 => own_go (tl3_ft (.val (.int i0)) (.val (.int i1)) (.val (.int i2)) (.val (.int i3)) (.val (.int i4)) (3 : Int32) (1 : Int32) r0 (.val (.int r1)) (.val (.int r2)) (.val (.int rel)) (.val (.ref b)) (.val (.ref w3)) (.val (.double FP.dconst0)) .second X1 hx hZ hw hby hml hown e1 (by decide) c0 (by decide) (by decide) (by decide) (by decide)) hx hby rfl rfl (dcmpV_self (Dy.zero 0).nn .l) (by decide) (by decide) N1)
    · exact own_s2 (s2_4 n0 FP.dconst0 (.val (.int i0)) (.val (.int i1)) (.val (.int i2)) (.val (.int i3)) (.val (.int i4)) (4 : Int32) (.val (.int (1 : Int32))) (.val (.int r0)) (.val (.int r1)) (.val (.int r2)) rel b w4 X0 hx hZ hw hby hml hown e0 S4 E4 (by decide) (by decide) (by decide) (by decide) N0 (by decide) (rm3_4ft l Z a0 hw [] w4 b rel cl (1 : Int32) r0 h0 n0 Z0 Ar R.1 (by decide) (fun q => q.elim (by decide) (fun q => by rw [R.1] at q; exact absurd q (by decide))) (R.2.1 (by decide)) E4 (by decide) c0 O4)) (fun T1 locs1 X1 e1 N1 => own_go (tl4_ft (.val (.int i0)) (.val (.int i1)) (.val (.int i2)) (.val (.int i3)) (.val (.int i4)) (4 : Int32) (1 : Int32) r0 (.val (.int r1)) (.val (.int r2)) (.val (.int rel)) (.val (.ref b)) (.val (.ref w4)) (.val (.double FP.dconst0)) .second X1 hx hZ hw hby hml hown e1 (by decide) c0 (by decide) (by decide) (by decide) (by decide)) hx hby rfl rfl (dcmpV_self (Dy.zero 0).nn .l) (by decide) (by decide) N1)
  · rcases hk with rfl | rfl | rfl | rfl | rfl
    · exact own_s2 (s2_0 n0 (FP.ddiv (FP.ddiv FP.dconst1 (FP.i2d r0)) (FP.i2d rel)) (.val (.int i0)) (.val (.int i1)) (.val (.int i2)) (.val (.int i3)) (.val (.int i4)) (0 : Int32) (.val (.int (1 : Int32))) (.val (.int r0)) (.val (.int r1)) (.val (.int r2)) rel b w0 X0 hx hZ hw hby hml hown e0 S0 E0 (by decide) N0 (by decide) (rm3_0ff l Z a0 hw [] w0 b rel cl (1 : Int32) r0 (FP.ddiv (FP.ddiv FP.dconst1 (FP.i2d r0)) (FP.i2d rel)) h0 n0 Z0 Ar R.1 (by decide) (fun q => q.elim (by decide) (fun q => by rw [R.1] at q; exact absurd q (by decide))) (R.2.1 (by decide)) E0 (by decide) c0 O0 (rm5_1 l Z a0 hw [] b rel cl r0 (FP.ddiv FP.dconst1 (FP.i2d r0)) (FP.ddiv FP.dconst1 (FP.i2d r0)) (FP.ddiv (FP.ddiv FP.dconst1 (FP.i2d r0)) (FP.i2d rel)) h0 n0 Z0 Ar R.1 (by decide) (fun q => q.elim (by decide) (fun q => by rw [R.1] at q; exact absurd q (by decide))) (R.2.1 (by decide)) (congrArg (fun z => FP.ddiv z (FP.i2d r0)) own_i1) (by rw [own_i1]; exact nD1) e01 (by rw [e01]; exact nD1) rfl nE1))) (fun T1 locs1 X1 e1 N1 => own_go (tl0_1 (.val (.int i0)) (.val (.int i1)) (.val (.int i2)) (.val (.int i3)) (.val (.int i4)) (0 : Int32) (1 : Int32) r0 (.val (.int r1)) (.val (.int r2)) rel (.val (.ref b)) (.val (.ref w0)) (.val (.double (FP.ddiv (FP.ddiv FP.dconst1 (FP.i2d r0)) (FP.i2d rel)))) .second (FP.ddiv FP.dconst1 (FP.i2d r0)) (FP.ddiv (FP.ddiv FP.dconst1 (FP.i2d r0)) (FP.i2d rel)) X1 hx hZ hw hby hml hown e1 (by decide) (by decide) (by decide) rfl nD1 (by decide) (by decide) rfl nE1) hx hby rfl rfl (dcmpV_self nE1 .l) (by decide) (by decide) N1)
    · exact own_s2 (s2_1 n0 (FP.ddiv (FP.i2d (1 : Int32)) (4621819117588971520 : UInt64)) (.val (.int i0)) (.val (.int i1)) (.val (.int i2)) (.val (.int i3)) (.val (.int i4)) (1 : Int32) (.val (.int (1 : Int32))) (.val (.int r0)) (.val (.int r1)) (.val (.int r2)) rel b w1 X0 hx hZ hw hby hml hown e0 S1 E1 (by decide) (by decide) N0 (by decide) (rm3_1ff l Z a0 hw [] w1 b rel cl (1 : Int32) r0 (FP.ddiv (FP.i2d (1 : Int32)) (4621819117588971520 : UInt64)) (1 : Int32) h0 n0 Z0 Ar R.1 (by decide) (fun q => q.elim (by decide) (fun q => by rw [R.1] at q; exact absurd q (by decide))) (R.2.1 (by decide)) E1 (by decide) c0 rfl (own_n10 _) O1 (rm6_1f l Z a0 hw [] b (10 : Int32) cl r0 h0 n0 Z0 Ar R.1 (by decide) (fun q => q.elim (by decide) (fun q => by rw [R.1] at q; exact absurd q (by decide))) (R.2.1 (by decide)) c0))) (fun T1 locs1 X1 e1 N1 => own_go (own_then (tl1_f (.val (.int i0)) (.val (.int i1)) (.val (.int i2)) (.val (.int i3)) (.val (.int i4)) (1 : Int32) (1 : Int32) r0 (.val (.int r1)) (.val (.int r2)) (.val (.int rel)) (.val (.ref b)) (.val (.ref w1)) (.val (.double (FP.ddiv (FP.i2d (1 : Int32)) (4621819117588971520 : UInt64)))) .second X1 hx hZ hw hby hml hown e1 (by decide) (by decide) (by decide)) (fun T2 X2 e2 => own_then (b267 _ _ _ _ _ _ (1 : Int32) r0 _ _ _ _ _ _ _ _ _ _ (0 : Int32) (1 : Int32) X2 hx hZ hw hby hml hown e2 ((if_pos (by decide)).trans ((if_neg c0).trans (by decide)))) (fun T3 X3 e3 => own_then (b285 _ _ _ _ _ _ (1 : Int32) _ r1 _ _ _ _ _ _ _ _ _ (1 : Int32) (1 : Int32) X3 hx hZ hw hby hml hown e3 (if_neg (by decide))) (fun T4 X4 e4 => own_then (b304 _ _ _ _ _ _ (1 : Int32) _ _ r2 _ _ _ _ _ _ _ _ (1 : Int32) (1 : Int32) X4 hx hZ hw hby hml hown e4 (if_neg (by decide))) (fun T5 X5 e5 => tl1_e _ _ _ _ _ _ _ _ _ _ _ _ _ _ _ _ (1 : Int32) (FP.ddiv (FP.i2d (1 : Int32)) (4621819117588971520 : UInt64)) X5 hx hZ hw hby hml hown e5 rfl (own_n10 _)))))) hx hby rfl rfl (dcmpV_self (own_n10 _) .l) (by decide) (by decide) N1)
    · exact own_s2 (s2_2 n0 (FP.ddiv FP.dconst1 (FP.i2d r0)) (.val (.int i0)) (.val (.int i1)) (.val (.int i2)) (.val (.int i3)) (.val (.int i4)) (2 : Int32) (.val (.int (1 : Int32))) (.val (.int r0)) (.val (.int r1)) (.val (.int r2)) rel b w2 X0 hx hZ hw hby hml hown e0 S2 E2 (by decide) (by decide) (by decide) N0 (by decide) (rm3_2ff l Z a0 hw [] w2 b rel cl (1 : Int32) r0 r0 (FP.ddiv FP.dconst1 (FP.i2d r0)) h0 n0 Z0 Ar R.1 (by decide) (fun q => q.elim (by decide) (fun q => by rw [R.1] at q; exact absurd q (by decide))) (R.2.1 (by decide)) E2 (fun q => q.elim (by decide) (fun q => by rw [R.1] at q; exact absurd q (by decide))) (R.2.1 (by decide)) (by decide) c0 rfl nD1 O2)) (fun T1 locs1 X1 e1 N1 => own_go (tl2_f (.val (.int i0)) (.val (.int i1)) (.val (.int i2)) (.val (.int i3)) (.val (.int i4)) (2 : Int32) (1 : Int32) r0 (.val (.int r1)) (.val (.int r2)) (.val (.int rel)) (.val (.ref b)) (.val (.ref w2)) (.val (.double (FP.ddiv FP.dconst1 (FP.i2d r0)))) .second (FP.ddiv FP.dconst1 (FP.i2d r0)) X1 hx hZ hw hby hml hown e1 (by decide) (by decide) (by decide) (by decide) (by decide) rfl nD1) hx hby rfl rfl (dcmpV_self nD1 .l) (by decide) (by decide) N1)
    · exact own_s2 (s2_3 n0 (FP.ddiv FP.dconst1 (FP.i2d r0)) (.val (.int i0)) (.val (.int i1)) (.val (.int i2)) (.val (.int i3)) (.val (.int i4)) (3 : Int32) (.val (.int (1 : Int32))) (.val (.int r0)) (.val (.int r1)) (.val (.int r2)) rel b w3 X0 hx hZ hw hby hml hown e0 S3 E3 (by decide) (by decide) (by decide) (by decide) N0 (by decide) (rm3_3ff l Z a0 hw [] w3 b rel cl (1 : Int32) r0 r0 (FP.ddiv FP.dconst1 (FP.i2d r0)) h0 n0 Z0 Ar R.1 (by decide) (fun q => q.elim (by decide) (fun q => by rw [R.1] at q; exact absurd q (by decide))) (R.2.1 (by decide)) E3 (fun q => q.elim (by decide) (fun q => by rw [R.1] at q; exact absurd q (by decide))) (R.2.1 (by decide)) (by decide) c0 rfl nD1 O3)) (fun T1 locs1 X1 e1 N1 => own_go (tl3_ff (.val (.int i0)) (.val (.int i1)) (.val (.int i2)) (.val (.int i3)) (.val (.int i4)) (3 : Int32) (1 : Int32) r0 (.val (.int r1)) (.val (.int r2)) (.val (.int rel)) (.val (.ref b)) (.val (.ref w3)) (.val (.double (FP.ddiv FP.dconst1 (FP.i2d r0)))) .second (FP.ddiv FP.dconst1 (FP.i2d r0)) X1 hx hZ hw hby hml hown e1 (by decide) c0 (by decide) (by decide) (by decide) (by decide) rfl nD1) hx hby rfl rfl (dcmpV_self nD1 .l) (by decide) (by decide) N1)
    · exact own_s2 (s2_4 n0 FP.dconst1 (.val (.int i0)) (.val (.int i1)) (.val (.int i2)) (.val (.int i3)) (.val (.int i4)) (4 : Int32) (.val (.int (1 : Int32))) (.val (.int r0)) (.val (.int r1)) (.val (.int r2)) rel b w4 X0 hx hZ hw hby hml hown e0 S4 E4 (by decide) (by decide) (by decide) (by decide) N0 (by decide) (rm3_4ff l Z a0 hw [] w4 b rel cl (1 : Int32) r0 h0 n0 Z0 Ar R.1 (by decide) (fun q => q.elim (by decide) (fun q => by rw [R.1] at q; exact absurd q (by decide))) (R.2.1 (by decide)) E4 (by decide) c0 O4)) (fun T1 locs1 X1 e1 N1 => own_go (tl4_ff (.val (.int i0)) (.val (.int i1)) (.val (.int i2)) (.val (.int i3)) (.val (.int i4)) (4 : Int32) (1 : Int32) r0 (.val (.int r1)) (.val (.int r2)) (.val (.int rel)) (.val (.ref b)) (.val (.ref w4)) (.val (.double FP.dconst1)) .second X1 hx hZ hw hby hml hown e1 (by decide) c0 (by decide) (by decide) (by decide) (by decide)) hx hby rfl rfl (dcmpV_self Dy.one.nn .l) (by decide) (by decide) N1)
set_option maxRecDepth 65536 in
set_option maxHeartbeats 40000000 in
theorem c100_2 {p : Program} {l : Launch} {e : Env} {s : State} {m : MethodId} {args : Array Value} {below : List Frame} {meth : Method} {c : Code} {n0 : Nat} {T0 : State} {locs : List Loc} {Z : State} {a0 : Array Value} {h0 : Heap} (i0 i1 i2 i3 i4 kd r0 r1 r2 rel : Int32) (b w0 w1 w2 w3 w4 : Addr) (cl : Cell) (X0 : Stand p l e ({ frames := 5, cells := 16, slots := 128, locals := 128 } : Room) s m args below meth c T0 locs 1 2) (hx : p.tables.exec = Jvm.exec) (hZ : Z.Warmed39 s.vm) (hw : ∀ d ∈ tables_1, d.before a0 Z = true) (hby : c.code = code) (hml : c.maxLocals = 20) (hown : s.vm.findClass "com/example/pesquisa/pesquisa/MeasureScorePinLaw" = some m.cls) (e0 : T0.heap = h0) (N0 : Fr n0 locs) (Z0 : n0 ≤ h0.size) (Ar : Arr Z h0 b cl .int) (R : RK 2 cl r0 r1 r2)
    (hk : kd = (0 : Int32) ∨ kd = (1 : Int32) ∨ kd = (2 : Int32) ∨ kd = (3 : Int32) ∨ kd = (4 : Int32)) (q0 : 1 ≤ r0.toInt) (q1 : r0.toInt < r1.toInt) (q2 : r1.toInt < r2.toInt) (qr : 1 ≤ rel.toInt) (S0 : Sta Z h0 "com/example/pesquisa/pesquisa/Measure" "AVERAGE_PRECISION" "Lcom/example/pesquisa/pesquisa/Measure;" (.ref w0)) (E0 : Exa Z h0 w0 "com/example/pesquisa/pesquisa/Measure") (O0 : Fld Z h0 w0 "java/lang/Enum" "ordinal" "I" (.int (0 : Int32))) (S1 : Sta Z h0 "com/example/pesquisa/pesquisa/Measure" "PRECISION_AT_10" "Lcom/example/pesquisa/pesquisa/Measure;" (.ref w1)) (E1 : Exa Z h0 w1 "com/example/pesquisa/pesquisa/Measure") (O1 : Fld Z h0 w1 "java/lang/Enum" "ordinal" "I" (.int (1 : Int32))) (S2 : Sta Z h0 "com/example/pesquisa/pesquisa/Measure" "RECIPROCAL_RANK" "Lcom/example/pesquisa/pesquisa/Measure;" (.ref w2)) (E2 : Exa Z h0 w2 "com/example/pesquisa/pesquisa/Measure") (O2 : Fld Z h0 w2 "java/lang/Enum" "ordinal" "I" (.int (2 : Int32))) (S3 : Sta Z h0 "com/example/pesquisa/pesquisa/Measure" "RECIPROCAL_RANK_AT_10" "Lcom/example/pesquisa/pesquisa/Measure;" (.ref w3)) (E3 : Exa Z h0 w3 "com/example/pesquisa/pesquisa/Measure") (O3 : Fld Z h0 w3 "java/lang/Enum" "ordinal" "I" (.int (3 : Int32))) (S4 : Sta Z h0 "com/example/pesquisa/pesquisa/Measure" "SUCCESS_AT_10" "Lcom/example/pesquisa/pesquisa/Measure;" (.ref w4)) (E4 : Exa Z h0 w4 "com/example/pesquisa/pesquisa/Measure") (O4 : Fld Z h0 w4 "java/lang/Enum" "ordinal" "I" (.int (4 : Int32))) :
    Goes p l e s m args below meth c n0 T0 (mkF m 100 #[.val (.int i0), .val (.int i1), .val (.int i2), .val (.int i3), .val (.int i4), .val (.int kd), .val (.int (2 : Int32)), .val (.int r0), .val (.int r1), .val (.int r2), .val (.int rel), .val (.ref b), .unset, .unset, .unset, .unset, .unset, .unset, .unset, .unset] []) := by
  obtain ⟨e01, nD1, nD2, nD3, nS2, nS3, nE0, nE1, nE2, nE3⟩ := own_plain q0 (show 1 ≤ r1.toInt by omega) (show 1 ≤ r2.toInt by omega) qr
  by_cases c0 : (10 : Int32) < r0
  · have c1 : (10 : Int32) < r1 := Int32.lt_iff_toInt_lt.mpr (by have := Int32.lt_iff_toInt_lt.mp c0; omega)
    rcases hk with rfl | rfl | rfl | rfl | rfl
    · exact own_s2 (s2_0 n0 (FP.ddiv (FP.dadd (FP.ddiv FP.dconst1 (FP.i2d r0)) (FP.ddiv (4611686018427387904 : UInt64) (FP.i2d r1))) (FP.i2d rel)) (.val (.int i0)) (.val (.int i1)) (.val (.int i2)) (.val (.int i3)) (.val (.int i4)) (0 : Int32) (.val (.int (2 : Int32))) (.val (.int r0)) (.val (.int r1)) (.val (.int r2)) rel b w0 X0 hx hZ hw hby hml hown e0 S0 E0 (by decide) N0 (by decide) (rm3_0ft l Z a0 hw [] w0 b rel cl (2 : Int32) r0 (FP.ddiv (FP.dadd (FP.ddiv FP.dconst1 (FP.i2d r0)) (FP.ddiv (4611686018427387904 : UInt64) (FP.i2d r1))) (FP.i2d rel)) h0 n0 Z0 Ar R.1 (by decide) (fun q => q.elim (by decide) (fun q => by rw [R.1] at q; exact absurd q (by decide))) (R.2.1 (by decide)) E0 (by decide) c0 O0 (rm5_2 l Z a0 hw [] b rel cl r0 (FP.ddiv FP.dconst1 (FP.i2d r0)) (FP.ddiv FP.dconst1 (FP.i2d r0)) r1 (FP.ddiv (4611686018427387904 : UInt64) (FP.i2d r1)) (FP.dadd (FP.ddiv FP.dconst1 (FP.i2d r0)) (FP.ddiv (4611686018427387904 : UInt64) (FP.i2d r1))) (FP.ddiv (FP.dadd (FP.ddiv FP.dconst1 (FP.i2d r0)) (FP.ddiv (4611686018427387904 : UInt64) (FP.i2d r1))) (FP.i2d rel)) h0 n0 Z0 Ar R.1 (by decide) (fun q => q.elim (by decide) (fun q => by rw [R.1] at q; exact absurd q (by decide))) (R.2.1 (by decide)) (fun q => q.elim (by decide) (fun q => by rw [R.1] at q; exact absurd q (by decide))) (R.2.2.1 (by decide)) (congrArg (fun z => FP.ddiv z (FP.i2d r0)) own_i1) (by rw [own_i1]; exact nD1) e01 (by rw [e01]; exact nD1) (congrArg (fun z => FP.ddiv z (FP.i2d r1)) own_i2) (by rw [own_i2]; exact nD2) rfl nS2 rfl nE2))) (fun T1 locs1 X1 e1 N1 => own_go (tl0_2 (.val (.int i0)) (.val (.int i1)) (.val (.int i2)) (.val (.int i3)) (.val (.int i4)) (0 : Int32) (2 : Int32) r0 r1 (.val (.int r2)) rel (.val (.ref b)) (.val (.ref w0)) (.val (.double (FP.ddiv (FP.dadd (FP.ddiv FP.dconst1 (FP.i2d r0)) (FP.ddiv (4611686018427387904 : UInt64) (FP.i2d r1))) (FP.i2d rel)))) .second (FP.ddiv FP.dconst1 (FP.i2d r0)) (FP.ddiv (4611686018427387904 : UInt64) (FP.i2d r1)) (FP.dadd (FP.ddiv FP.dconst1 (FP.i2d r0)) (FP.ddiv (4611686018427387904 : UInt64) (FP.i2d r1))) (FP.ddiv (FP.dadd (FP.ddiv FP.dconst1 (FP.i2d r0)) (FP.ddiv (4611686018427387904 : UInt64) (FP.i2d r1))) (FP.i2d rel)) X1 hx hZ hw hby hml hown e1 (by decide) (by decide) (by decide) rfl nD1 (by decide) rfl nD2 rfl nS2 (by decide) rfl nE2) hx hby rfl rfl (dcmpV_self nE2 .l) (by decide) (by decide) N1)
    · exact own_s2 (s2_1 n0 (FP.ddiv (FP.i2d (0 : Int32)) (4621819117588971520 : UInt64)) (.val (.int i0)) (.val (.int i1)) (.val (.int i2)) (.val (.int i3)) (.val (.int i4)) (1 : Int32) (.val (.int (2 : Int32))) (.val (.int r0)) (.val (.int r1)) (.val (.int r2)) rel b w1 X0 hx hZ hw hby hml hown e0 S1 E1 (by decide) (by decide) N0 (by decide) (rm3_1ft l Z a0 hw [] w1 b rel cl (2 : Int32) r0 (FP.ddiv (FP.i2d (0 : Int32)) (4621819117588971520 : UInt64)) (0 : Int32) h0 n0 Z0 Ar R.1 (by decide) (fun q => q.elim (by decide) (fun q => by rw [R.1] at q; exact absurd q (by decide))) (R.2.1 (by decide)) E1 (by decide) c0 rfl (own_n10 _) O1 (rm6_2t l Z a0 hw [] b (10 : Int32) cl r0 h0 n0 Z0 Ar R.1 (by decide) (fun q => q.elim (by decide) (fun q => by rw [R.1] at q; exact absurd q (by decide))) (R.2.1 (by decide)) c0))) (fun T1 locs1 X1 e1 N1 => own_go (own_then (tl1_f (.val (.int i0)) (.val (.int i1)) (.val (.int i2)) (.val (.int i3)) (.val (.int i4)) (1 : Int32) (2 : Int32) r0 (.val (.int r1)) (.val (.int r2)) (.val (.int rel)) (.val (.ref b)) (.val (.ref w1)) (.val (.double (FP.ddiv (FP.i2d (0 : Int32)) (4621819117588971520 : UInt64)))) .second X1 hx hZ hw hby hml hown e1 (by decide) (by decide) (by decide)) (fun T2 X2 e2 => own_then (b267 _ _ _ _ _ _ (2 : Int32) r0 _ _ _ _ _ _ _ _ _ _ (0 : Int32) (0 : Int32) X2 hx hZ hw hby hml hown e2 ((if_pos (by decide)).trans (if_pos c0))) (fun T3 X3 e3 => own_then (b285 _ _ _ _ _ _ (2 : Int32) _ r1 _ _ _ _ _ _ _ _ _ (0 : Int32) (0 : Int32) X3 hx hZ hw hby hml hown e3 ((if_pos (by decide)).trans (if_pos c1))) (fun T4 X4 e4 => own_then (b304 _ _ _ _ _ _ (2 : Int32) _ _ r2 _ _ _ _ _ _ _ _ (0 : Int32) (0 : Int32) X4 hx hZ hw hby hml hown e4 (if_neg (by decide))) (fun T5 X5 e5 => tl1_e _ _ _ _ _ _ _ _ _ _ _ _ _ _ _ _ (0 : Int32) (FP.ddiv (FP.i2d (0 : Int32)) (4621819117588971520 : UInt64)) X5 hx hZ hw hby hml hown e5 rfl (own_n10 _)))))) hx hby rfl rfl (dcmpV_self (own_n10 _) .l) (by decide) (by decide) N1)
    · exact own_s2 (s2_2 n0 (FP.ddiv FP.dconst1 (FP.i2d r0)) (.val (.int i0)) (.val (.int i1)) (.val (.int i2)) (.val (.int i3)) (.val (.int i4)) (2 : Int32) (.val (.int (2 : Int32))) (.val (.int r0)) (.val (.int r1)) (.val (.int r2)) rel b w2 X0 hx hZ hw hby hml hown e0 S2 E2 (by decide) (by decide) (by decide) N0 (by decide) (rm3_2ft l Z a0 hw [] w2 b rel cl (2 : Int32) r0 r0 (FP.ddiv FP.dconst1 (FP.i2d r0)) h0 n0 Z0 Ar R.1 (by decide) (fun q => q.elim (by decide) (fun q => by rw [R.1] at q; exact absurd q (by decide))) (R.2.1 (by decide)) E2 (fun q => q.elim (by decide) (fun q => by rw [R.1] at q; exact absurd q (by decide))) (R.2.1 (by decide)) (by decide) c0 rfl nD1 O2)) (fun T1 locs1 X1 e1 N1 => own_go (tl2_f (.val (.int i0)) (.val (.int i1)) (.val (.int i2)) (.val (.int i3)) (.val (.int i4)) (2 : Int32) (2 : Int32) r0 (.val (.int r1)) (.val (.int r2)) (.val (.int rel)) (.val (.ref b)) (.val (.ref w2)) (.val (.double (FP.ddiv FP.dconst1 (FP.i2d r0)))) .second (FP.ddiv FP.dconst1 (FP.i2d r0)) X1 hx hZ hw hby hml hown e1 (by decide) (by decide) (by decide) (by decide) (by decide) rfl nD1) hx hby rfl rfl (dcmpV_self nD1 .l) (by decide) (by decide) N1)
    · exact own_s2 (s2_3 n0 FP.dconst0 (.val (.int i0)) (.val (.int i1)) (.val (.int i2)) (.val (.int i3)) (.val (.int i4)) (3 : Int32) (.val (.int (2 : Int32))) (.val (.int r0)) (.val (.int r1)) (.val (.int r2)) rel b w3 X0 hx hZ hw hby hml hown e0 S3 E3 (by decide) (by decide) (by decide) (by decide) N0 (by decide) (rm3_3ft l Z a0 hw [] w3 b rel cl (2 : Int32) r0 h0 n0 Z0 Ar R.1 (by decide) (fun q => q.elim (by decide) (fun q => by rw [R.1] at q; exact absurd q (by decide))) (R.2.1 (by decide)) E3 (by decide) c0 O3)) (fun T1 locs1 X1 e1 N1 => own_go (tl3_ft (.val (.int i0)) (.val (.int i1)) (.val (.int i2)) (.val (.int i3)) (.val (.int i4)) (3 : Int32) (2 : Int32) r0 (.val (.int r1)) (.val (.int r2)) (.val (.int rel)) (.val (.ref b)) (.val (.ref w3)) (.val (.double FP.dconst0)) .second X1 hx hZ hw hby hml hown e1 (by decide) c0 (by decide) (by decide) (by decide) (by decide)) hx hby rfl rfl (dcmpV_self (Dy.zero 0).nn .l) (by decide) (by decide) N1)
    · exact own_s2 (s2_4 n0 FP.dconst0 (.val (.int i0)) (.val (.int i1)) (.val (.int i2)) (.val (.int i3)) (.val (.int i4)) (4 : Int32) (.val (.int (2 : Int32))) (.val (.int r0)) (.val (.int r1)) (.val (.int r2)) rel b w4 X0 hx hZ hw hby hml hown e0 S4 E4 (by decide) (by decide) (by decide) (by decide) N0 (by decide) (rm3_4ft l Z a0 hw [] w4 b rel cl (2 : Int32) r0 h0 n0 Z0 Ar R.1 (by decide) (fun q => q.elim (by decide) (fun q => by rw [R.1] at q; exact absurd q (by decide))) (R.2.1 (by decide)) E4 (by decide) c0 O4)) (fun T1 locs1 X1 e1 N1 => own_go (tl4_ft (.val (.int i0)) (.val (.int i1)) (.val (.int i2)) (.val (.int i3)) (.val (.int i4)) (4 : Int32) (2 : Int32) r0 (.val (.int r1)) (.val (.int r2)) (.val (.int rel)) (.val (.ref b)) (.val (.ref w4)) (.val (.double FP.dconst0)) .second X1 hx hZ hw hby hml hown e1 (by decide) c0 (by decide) (by decide) (by decide) (by decide)) hx hby rfl rfl (dcmpV_self (Dy.zero 0).nn .l) (by decide) (by decide) N1)
  · by_cases c1 : (10 : Int32) < r1
    · rcases hk with rfl | rfl | rfl | rfl | rfl
      · exact own_s2 (s2_0 n0 (FP.ddiv (FP.dadd (FP.ddiv FP.dconst1 (FP.i2d r0)) (FP.ddiv (4611686018427387904 : UInt64) (FP.i2d r1))) (FP.i2d rel)) (.val (.int i0)) (.val (.int i1)) (.val (.int i2)) (.val (.int i3)) (.val (.int i4)) (0 : Int32) (.val (.int (2 : Int32))) (.val (.int r0)) (.val (.int r1)) (.val (.int r2)) rel b w0 X0 hx hZ hw hby hml hown e0 S0 E0 (by decide) N0 (by decide) (rm3_0ff l Z a0 hw [] w0 b rel cl (2 : Int32) r0 (FP.ddiv (FP.dadd (FP.ddiv FP.dconst1 (FP.i2d r0)) (FP.ddiv (4611686018427387904 : UInt64) (FP.i2d r1))) (FP.i2d rel)) h0 n0 Z0 Ar R.1 (by decide) (fun q => q.elim (by decide) (fun q => by rw [R.1] at q; exact absurd q (by decide))) (R.2.1 (by decide)) E0 (by decide) c0 O0 (rm5_2 l Z a0 hw [] b rel cl r0 (FP.ddiv FP.dconst1 (FP.i2d r0)) (FP.ddiv FP.dconst1 (FP.i2d r0)) r1 (FP.ddiv (4611686018427387904 : UInt64) (FP.i2d r1)) (FP.dadd (FP.ddiv FP.dconst1 (FP.i2d r0)) (FP.ddiv (4611686018427387904 : UInt64) (FP.i2d r1))) (FP.ddiv (FP.dadd (FP.ddiv FP.dconst1 (FP.i2d r0)) (FP.ddiv (4611686018427387904 : UInt64) (FP.i2d r1))) (FP.i2d rel)) h0 n0 Z0 Ar R.1 (by decide) (fun q => q.elim (by decide) (fun q => by rw [R.1] at q; exact absurd q (by decide))) (R.2.1 (by decide)) (fun q => q.elim (by decide) (fun q => by rw [R.1] at q; exact absurd q (by decide))) (R.2.2.1 (by decide)) (congrArg (fun z => FP.ddiv z (FP.i2d r0)) own_i1) (by rw [own_i1]; exact nD1) e01 (by rw [e01]; exact nD1) (congrArg (fun z => FP.ddiv z (FP.i2d r1)) own_i2) (by rw [own_i2]; exact nD2) rfl nS2 rfl nE2))) (fun T1 locs1 X1 e1 N1 => own_go (tl0_2 (.val (.int i0)) (.val (.int i1)) (.val (.int i2)) (.val (.int i3)) (.val (.int i4)) (0 : Int32) (2 : Int32) r0 r1 (.val (.int r2)) rel (.val (.ref b)) (.val (.ref w0)) (.val (.double (FP.ddiv (FP.dadd (FP.ddiv FP.dconst1 (FP.i2d r0)) (FP.ddiv (4611686018427387904 : UInt64) (FP.i2d r1))) (FP.i2d rel)))) .second (FP.ddiv FP.dconst1 (FP.i2d r0)) (FP.ddiv (4611686018427387904 : UInt64) (FP.i2d r1)) (FP.dadd (FP.ddiv FP.dconst1 (FP.i2d r0)) (FP.ddiv (4611686018427387904 : UInt64) (FP.i2d r1))) (FP.ddiv (FP.dadd (FP.ddiv FP.dconst1 (FP.i2d r0)) (FP.ddiv (4611686018427387904 : UInt64) (FP.i2d r1))) (FP.i2d rel)) X1 hx hZ hw hby hml hown e1 (by decide) (by decide) (by decide) rfl nD1 (by decide) rfl nD2 rfl nS2 (by decide) rfl nE2) hx hby rfl rfl (dcmpV_self nE2 .l) (by decide) (by decide) N1)
      · exact own_s2 (s2_1 n0 (FP.ddiv (FP.i2d (1 : Int32)) (4621819117588971520 : UInt64)) (.val (.int i0)) (.val (.int i1)) (.val (.int i2)) (.val (.int i3)) (.val (.int i4)) (1 : Int32) (.val (.int (2 : Int32))) (.val (.int r0)) (.val (.int r1)) (.val (.int r2)) rel b w1 X0 hx hZ hw hby hml hown e0 S1 E1 (by decide) (by decide) N0 (by decide) (rm3_1ff l Z a0 hw [] w1 b rel cl (2 : Int32) r0 (FP.ddiv (FP.i2d (1 : Int32)) (4621819117588971520 : UInt64)) (1 : Int32) h0 n0 Z0 Ar R.1 (by decide) (fun q => q.elim (by decide) (fun q => by rw [R.1] at q; exact absurd q (by decide))) (R.2.1 (by decide)) E1 (by decide) c0 rfl (own_n10 _) O1 (rm6_2ft l Z a0 hw [] b (10 : Int32) cl r0 r1 h0 n0 Z0 Ar R.1 (by decide) (fun q => q.elim (by decide) (fun q => by rw [R.1] at q; exact absurd q (by decide))) (R.2.1 (by decide)) (fun q => q.elim (by decide) (fun q => by rw [R.1] at q; exact absurd q (by decide))) (R.2.2.1 (by decide)) c0 c1))) (fun T1 locs1 X1 e1 N1 => own_go (own_then (tl1_f (.val (.int i0)) (.val (.int i1)) (.val (.int i2)) (.val (.int i3)) (.val (.int i4)) (1 : Int32) (2 : Int32) r0 (.val (.int r1)) (.val (.int r2)) (.val (.int rel)) (.val (.ref b)) (.val (.ref w1)) (.val (.double (FP.ddiv (FP.i2d (1 : Int32)) (4621819117588971520 : UInt64)))) .second X1 hx hZ hw hby hml hown e1 (by decide) (by decide) (by decide)) (fun T2 X2 e2 => own_then (b267 _ _ _ _ _ _ (2 : Int32) r0 _ _ _ _ _ _ _ _ _ _ (0 : Int32) (1 : Int32) X2 hx hZ hw hby hml hown e2 ((if_pos (by decide)).trans ((if_neg c0).trans (by decide)))) (fun T3 X3 e3 => own_then (b285 _ _ _ _ _ _ (2 : Int32) _ r1 _ _ _ _ _ _ _ _ _ (1 : Int32) (1 : Int32) X3 hx hZ hw hby hml hown e3 ((if_pos (by decide)).trans (if_pos c1))) (fun T4 X4 e4 => own_then (b304 _ _ _ _ _ _ (2 : Int32) _ _ r2 _ _ _ _ _ _ _ _ (1 : Int32) (1 : Int32) X4 hx hZ hw hby hml hown e4 (if_neg (by decide))) (fun T5 X5 e5 => tl1_e _ _ _ _ _ _ _ _ _ _ _ _ _ _ _ _ (1 : Int32) (FP.ddiv (FP.i2d (1 : Int32)) (4621819117588971520 : UInt64)) X5 hx hZ hw hby hml hown e5 rfl (own_n10 _)))))) hx hby rfl rfl (dcmpV_self (own_n10 _) .l) (by decide) (by decide) N1)
      · exact own_s2 (s2_2 n0 (FP.ddiv FP.dconst1 (FP.i2d r0)) (.val (.int i0)) (.val (.int i1)) (.val (.int i2)) (.val (.int i3)) (.val (.int i4)) (2 : Int32) (.val (.int (2 : Int32))) (.val (.int r0)) (.val (.int r1)) (.val (.int r2)) rel b w2 X0 hx hZ hw hby hml hown e0 S2 E2 (by decide) (by decide) (by decide) N0 (by decide) (rm3_2ff l Z a0 hw [] w2 b rel cl (2 : Int32) r0 r0 (FP.ddiv FP.dconst1 (FP.i2d r0)) h0 n0 Z0 Ar R.1 (by decide) (fun q => q.elim (by decide) (fun q => by rw [R.1] at q; exact absurd q (by decide))) (R.2.1 (by decide)) E2 (fun q => q.elim (by decide) (fun q => by rw [R.1] at q; exact absurd q (by decide))) (R.2.1 (by decide)) (by decide) c0 rfl nD1 O2)) (fun T1 locs1 X1 e1 N1 => own_go (tl2_f (.val (.int i0)) (.val (.int i1)) (.val (.int i2)) (.val (.int i3)) (.val (.int i4)) (2 : Int32) (2 : Int32) r0 (.val (.int r1)) (.val (.int r2)) (.val (.int rel)) (.val (.ref b)) (.val (.ref w2)) (.val (.double (FP.ddiv FP.dconst1 (FP.i2d r0)))) .second (FP.ddiv FP.dconst1 (FP.i2d r0)) X1 hx hZ hw hby hml hown e1 (by decide) (by decide) (by decide) (by decide) (by decide) rfl nD1) hx hby rfl rfl (dcmpV_self nD1 .l) (by decide) (by decide) N1)
      · exact own_s2 (s2_3 n0 (FP.ddiv FP.dconst1 (FP.i2d r0)) (.val (.int i0)) (.val (.int i1)) (.val (.int i2)) (.val (.int i3)) (.val (.int i4)) (3 : Int32) (.val (.int (2 : Int32))) (.val (.int r0)) (.val (.int r1)) (.val (.int r2)) rel b w3 X0 hx hZ hw hby hml hown e0 S3 E3 (by decide) (by decide) (by decide) (by decide) N0 (by decide) (rm3_3ff l Z a0 hw [] w3 b rel cl (2 : Int32) r0 r0 (FP.ddiv FP.dconst1 (FP.i2d r0)) h0 n0 Z0 Ar R.1 (by decide) (fun q => q.elim (by decide) (fun q => by rw [R.1] at q; exact absurd q (by decide))) (R.2.1 (by decide)) E3 (fun q => q.elim (by decide) (fun q => by rw [R.1] at q; exact absurd q (by decide))) (R.2.1 (by decide)) (by decide) c0 rfl nD1 O3)) (fun T1 locs1 X1 e1 N1 => own_go (tl3_ff (.val (.int i0)) (.val (.int i1)) (.val (.int i2)) (.val (.int i3)) (.val (.int i4)) (3 : Int32) (2 : Int32) r0 (.val (.int r1)) (.val (.int r2)) (.val (.int rel)) (.val (.ref b)) (.val (.ref w3)) (.val (.double (FP.ddiv FP.dconst1 (FP.i2d r0)))) .second (FP.ddiv FP.dconst1 (FP.i2d r0)) X1 hx hZ hw hby hml hown e1 (by decide) c0 (by decide) (by decide) (by decide) (by decide) rfl nD1) hx hby rfl rfl (dcmpV_self nD1 .l) (by decide) (by decide) N1)
      · exact own_s2 (s2_4 n0 FP.dconst1 (.val (.int i0)) (.val (.int i1)) (.val (.int i2)) (.val (.int i3)) (.val (.int i4)) (4 : Int32) (.val (.int (2 : Int32))) (.val (.int r0)) (.val (.int r1)) (.val (.int r2)) rel b w4 X0 hx hZ hw hby hml hown e0 S4 E4 (by decide) (by decide) (by decide) (by decide) N0 (by decide) (rm3_4ff l Z a0 hw [] w4 b rel cl (2 : Int32) r0 h0 n0 Z0 Ar R.1 (by decide) (fun q => q.elim (by decide) (fun q => by rw [R.1] at q; exact absurd q (by decide))) (R.2.1 (by decide)) E4 (by decide) c0 O4)) (fun T1 locs1 X1 e1 N1 => own_go (tl4_ff (.val (.int i0)) (.val (.int i1)) (.val (.int i2)) (.val (.int i3)) (.val (.int i4)) (4 : Int32) (2 : Int32) r0 (.val (.int r1)) (.val (.int r2)) (.val (.int rel)) (.val (.ref b)) (.val (.ref w4)) (.val (.double FP.dconst1)) .second X1 hx hZ hw hby hml hown e1 (by decide) c0 (by decide) (by decide) (by decide) (by decide)) hx hby rfl rfl (dcmpV_self Dy.one.nn .l) (by decide) (by decide) N1)
    · rcases hk with rfl | rfl | rfl | rfl | rfl
      · exact own_s2 (s2_0 n0 (FP.ddiv (FP.dadd (FP.ddiv FP.dconst1 (FP.i2d r0)) (FP.ddiv (4611686018427387904 : UInt64) (FP.i2d r1))) (FP.i2d rel)) (.val (.int i0)) (.val (.int i1)) (.val (.int i2)) (.val (.int i3)) (.val (.int i4)) (0 : Int32) (.val (.int (2 : Int32))) (.val (.int r0)) (.val (.int r1)) (.val (.int r2)) rel b w0 X0 hx hZ hw hby hml hown e0 S0 E0 (by decide) N0 (by decide) (rm3_0ff l Z a0 hw [] w0 b rel cl (2 : Int32) r0 (FP.ddiv (FP.dadd (FP.ddiv FP.dconst1 (FP.i2d r0)) (FP.ddiv (4611686018427387904 : UInt64) (FP.i2d r1))) (FP.i2d rel)) h0 n0 Z0 Ar R.1 (by decide) (fun q => q.elim (by decide) (fun q => by rw [R.1] at q; exact absurd q (by decide))) (R.2.1 (by decide)) E0 (by decide) c0 O0 (rm5_2 l Z a0 hw [] b rel cl r0 (FP.ddiv FP.dconst1 (FP.i2d r0)) (FP.ddiv FP.dconst1 (FP.i2d r0)) r1 (FP.ddiv (4611686018427387904 : UInt64) (FP.i2d r1)) (FP.dadd (FP.ddiv FP.dconst1 (FP.i2d r0)) (FP.ddiv (4611686018427387904 : UInt64) (FP.i2d r1))) (FP.ddiv (FP.dadd (FP.ddiv FP.dconst1 (FP.i2d r0)) (FP.ddiv (4611686018427387904 : UInt64) (FP.i2d r1))) (FP.i2d rel)) h0 n0 Z0 Ar R.1 (by decide) (fun q => q.elim (by decide) (fun q => by rw [R.1] at q; exact absurd q (by decide))) (R.2.1 (by decide)) (fun q => q.elim (by decide) (fun q => by rw [R.1] at q; exact absurd q (by decide))) (R.2.2.1 (by decide)) (congrArg (fun z => FP.ddiv z (FP.i2d r0)) own_i1) (by rw [own_i1]; exact nD1) e01 (by rw [e01]; exact nD1) (congrArg (fun z => FP.ddiv z (FP.i2d r1)) own_i2) (by rw [own_i2]; exact nD2) rfl nS2 rfl nE2))) (fun T1 locs1 X1 e1 N1 => own_go (tl0_2 (.val (.int i0)) (.val (.int i1)) (.val (.int i2)) (.val (.int i3)) (.val (.int i4)) (0 : Int32) (2 : Int32) r0 r1 (.val (.int r2)) rel (.val (.ref b)) (.val (.ref w0)) (.val (.double (FP.ddiv (FP.dadd (FP.ddiv FP.dconst1 (FP.i2d r0)) (FP.ddiv (4611686018427387904 : UInt64) (FP.i2d r1))) (FP.i2d rel)))) .second (FP.ddiv FP.dconst1 (FP.i2d r0)) (FP.ddiv (4611686018427387904 : UInt64) (FP.i2d r1)) (FP.dadd (FP.ddiv FP.dconst1 (FP.i2d r0)) (FP.ddiv (4611686018427387904 : UInt64) (FP.i2d r1))) (FP.ddiv (FP.dadd (FP.ddiv FP.dconst1 (FP.i2d r0)) (FP.ddiv (4611686018427387904 : UInt64) (FP.i2d r1))) (FP.i2d rel)) X1 hx hZ hw hby hml hown e1 (by decide) (by decide) (by decide) rfl nD1 (by decide) rfl nD2 rfl nS2 (by decide) rfl nE2) hx hby rfl rfl (dcmpV_self nE2 .l) (by decide) (by decide) N1)
      · exact own_s2 (s2_1 n0 (FP.ddiv (FP.i2d (2 : Int32)) (4621819117588971520 : UInt64)) (.val (.int i0)) (.val (.int i1)) (.val (.int i2)) (.val (.int i3)) (.val (.int i4)) (1 : Int32) (.val (.int (2 : Int32))) (.val (.int r0)) (.val (.int r1)) (.val (.int r2)) rel b w1 X0 hx hZ hw hby hml hown e0 S1 E1 (by decide) (by decide) N0 (by decide) (rm3_1ff l Z a0 hw [] w1 b rel cl (2 : Int32) r0 (FP.ddiv (FP.i2d (2 : Int32)) (4621819117588971520 : UInt64)) (2 : Int32) h0 n0 Z0 Ar R.1 (by decide) (fun q => q.elim (by decide) (fun q => by rw [R.1] at q; exact absurd q (by decide))) (R.2.1 (by decide)) E1 (by decide) c0 rfl (own_n10 _) O1 (rm6_2ff l Z a0 hw [] b (10 : Int32) cl r0 r1 h0 n0 Z0 Ar R.1 (by decide) (fun q => q.elim (by decide) (fun q => by rw [R.1] at q; exact absurd q (by decide))) (R.2.1 (by decide)) (fun q => q.elim (by decide) (fun q => by rw [R.1] at q; exact absurd q (by decide))) (R.2.2.1 (by decide)) c0 c1))) (fun T1 locs1 X1 e1 N1 => own_go (own_then (tl1_f (.val (.int i0)) (.val (.int i1)) (.val (.int i2)) (.val (.int i3)) (.val (.int i4)) (1 : Int32) (2 : Int32) r0 (.val (.int r1)) (.val (.int r2)) (.val (.int rel)) (.val (.ref b)) (.val (.ref w1)) (.val (.double (FP.ddiv (FP.i2d (2 : Int32)) (4621819117588971520 : UInt64)))) .second X1 hx hZ hw hby hml hown e1 (by decide) (by decide) (by decide)) (fun T2 X2 e2 => own_then (b267 _ _ _ _ _ _ (2 : Int32) r0 _ _ _ _ _ _ _ _ _ _ (0 : Int32) (1 : Int32) X2 hx hZ hw hby hml hown e2 ((if_pos (by decide)).trans ((if_neg c0).trans (by decide)))) (fun T3 X3 e3 => own_then (b285 _ _ _ _ _ _ (2 : Int32) _ r1 _ _ _ _ _ _ _ _ _ (1 : Int32) (2 : Int32) X3 hx hZ hw hby hml hown e3 ((if_pos (by decide)).trans ((if_neg c1).trans (by decide)))) (fun T4 X4 e4 => own_then (b304 _ _ _ _ _ _ (2 : Int32) _ _ r2 _ _ _ _ _ _ _ _ (2 : Int32) (2 : Int32) X4 hx hZ hw hby hml hown e4 (if_neg (by decide))) (fun T5 X5 e5 => tl1_e _ _ _ _ _ _ _ _ _ _ _ _ _ _ _ _ (2 : Int32) (FP.ddiv (FP.i2d (2 : Int32)) (4621819117588971520 : UInt64)) X5 hx hZ hw hby hml hown e5 rfl (own_n10 _)))))) hx hby rfl rfl (dcmpV_self (own_n10 _) .l) (by decide) (by decide) N1)
      · exact own_s2 (s2_2 n0 (FP.ddiv FP.dconst1 (FP.i2d r0)) (.val (.int i0)) (.val (.int i1)) (.val (.int i2)) (.val (.int i3)) (.val (.int i4)) (2 : Int32) (.val (.int (2 : Int32))) (.val (.int r0)) (.val (.int r1)) (.val (.int r2)) rel b w2 X0 hx hZ hw hby hml hown e0 S2 E2 (by decide) (by decide) (by decide) N0 (by decide) (rm3_2ff l Z a0 hw [] w2 b rel cl (2 : Int32) r0 r0 (FP.ddiv FP.dconst1 (FP.i2d r0)) h0 n0 Z0 Ar R.1 (by decide) (fun q => q.elim (by decide) (fun q => by rw [R.1] at q; exact absurd q (by decide))) (R.2.1 (by decide)) E2 (fun q => q.elim (by decide) (fun q => by rw [R.1] at q; exact absurd q (by decide))) (R.2.1 (by decide)) (by decide) c0 rfl nD1 O2)) (fun T1 locs1 X1 e1 N1 => own_go (tl2_f (.val (.int i0)) (.val (.int i1)) (.val (.int i2)) (.val (.int i3)) (.val (.int i4)) (2 : Int32) (2 : Int32) r0 (.val (.int r1)) (.val (.int r2)) (.val (.int rel)) (.val (.ref b)) (.val (.ref w2)) (.val (.double (FP.ddiv FP.dconst1 (FP.i2d r0)))) .second (FP.ddiv FP.dconst1 (FP.i2d r0)) X1 hx hZ hw hby hml hown e1 (by decide) (by decide) (by decide) (by decide) (by decide) rfl nD1) hx hby rfl rfl (dcmpV_self nD1 .l) (by decide) (by decide) N1)
      · exact own_s2 (s2_3 n0 (FP.ddiv FP.dconst1 (FP.i2d r0)) (.val (.int i0)) (.val (.int i1)) (.val (.int i2)) (.val (.int i3)) (.val (.int i4)) (3 : Int32) (.val (.int (2 : Int32))) (.val (.int r0)) (.val (.int r1)) (.val (.int r2)) rel b w3 X0 hx hZ hw hby hml hown e0 S3 E3 (by decide) (by decide) (by decide) (by decide) N0 (by decide) (rm3_3ff l Z a0 hw [] w3 b rel cl (2 : Int32) r0 r0 (FP.ddiv FP.dconst1 (FP.i2d r0)) h0 n0 Z0 Ar R.1 (by decide) (fun q => q.elim (by decide) (fun q => by rw [R.1] at q; exact absurd q (by decide))) (R.2.1 (by decide)) E3 (fun q => q.elim (by decide) (fun q => by rw [R.1] at q; exact absurd q (by decide))) (R.2.1 (by decide)) (by decide) c0 rfl nD1 O3)) (fun T1 locs1 X1 e1 N1 => own_go (tl3_ff (.val (.int i0)) (.val (.int i1)) (.val (.int i2)) (.val (.int i3)) (.val (.int i4)) (3 : Int32) (2 : Int32) r0 (.val (.int r1)) (.val (.int r2)) (.val (.int rel)) (.val (.ref b)) (.val (.ref w3)) (.val (.double (FP.ddiv FP.dconst1 (FP.i2d r0)))) .second (FP.ddiv FP.dconst1 (FP.i2d r0)) X1 hx hZ hw hby hml hown e1 (by decide) c0 (by decide) (by decide) (by decide) (by decide) rfl nD1) hx hby rfl rfl (dcmpV_self nD1 .l) (by decide) (by decide) N1)
      · exact own_s2 (s2_4 n0 FP.dconst1 (.val (.int i0)) (.val (.int i1)) (.val (.int i2)) (.val (.int i3)) (.val (.int i4)) (4 : Int32) (.val (.int (2 : Int32))) (.val (.int r0)) (.val (.int r1)) (.val (.int r2)) rel b w4 X0 hx hZ hw hby hml hown e0 S4 E4 (by decide) (by decide) (by decide) (by decide) N0 (by decide) (rm3_4ff l Z a0 hw [] w4 b rel cl (2 : Int32) r0 h0 n0 Z0 Ar R.1 (by decide) (fun q => q.elim (by decide) (fun q => by rw [R.1] at q; exact absurd q (by decide))) (R.2.1 (by decide)) E4 (by decide) c0 O4)) (fun T1 locs1 X1 e1 N1 => own_go (tl4_ff (.val (.int i0)) (.val (.int i1)) (.val (.int i2)) (.val (.int i3)) (.val (.int i4)) (4 : Int32) (2 : Int32) r0 (.val (.int r1)) (.val (.int r2)) (.val (.int rel)) (.val (.ref b)) (.val (.ref w4)) (.val (.double FP.dconst1)) .second X1 hx hZ hw hby hml hown e1 (by decide) c0 (by decide) (by decide) (by decide) (by decide)) hx hby rfl rfl (dcmpV_self Dy.one.nn .l) (by decide) (by decide) N1)
set_option maxRecDepth 65536 in
set_option maxHeartbeats 40000000 in
theorem c100_3 {p : Program} {l : Launch} {e : Env} {s : State} {m : MethodId} {args : Array Value} {below : List Frame} {meth : Method} {c : Code} {n0 : Nat} {T0 : State} {locs : List Loc} {Z : State} {a0 : Array Value} {h0 : Heap} (i0 i1 i2 i3 i4 kd r0 r1 r2 rel : Int32) (b w0 w1 w2 w3 w4 : Addr) (cl : Cell) (X0 : Stand p l e ({ frames := 5, cells := 16, slots := 128, locals := 128 } : Room) s m args below meth c T0 locs 1 3) (hx : p.tables.exec = Jvm.exec) (hZ : Z.Warmed39 s.vm) (hw : ∀ d ∈ tables_1, d.before a0 Z = true) (hby : c.code = code) (hml : c.maxLocals = 20) (hown : s.vm.findClass "com/example/pesquisa/pesquisa/MeasureScorePinLaw" = some m.cls) (e0 : T0.heap = h0) (N0 : Fr n0 locs) (Z0 : n0 ≤ h0.size) (Ar : Arr Z h0 b cl .int) (R : RK 3 cl r0 r1 r2)
    (hk : kd = (0 : Int32) ∨ kd = (1 : Int32) ∨ kd = (2 : Int32) ∨ kd = (3 : Int32) ∨ kd = (4 : Int32)) (q0 : 1 ≤ r0.toInt) (q1 : r0.toInt < r1.toInt) (q2 : r1.toInt < r2.toInt) (qr : 1 ≤ rel.toInt) (S0 : Sta Z h0 "com/example/pesquisa/pesquisa/Measure" "AVERAGE_PRECISION" "Lcom/example/pesquisa/pesquisa/Measure;" (.ref w0)) (E0 : Exa Z h0 w0 "com/example/pesquisa/pesquisa/Measure") (O0 : Fld Z h0 w0 "java/lang/Enum" "ordinal" "I" (.int (0 : Int32))) (S1 : Sta Z h0 "com/example/pesquisa/pesquisa/Measure" "PRECISION_AT_10" "Lcom/example/pesquisa/pesquisa/Measure;" (.ref w1)) (E1 : Exa Z h0 w1 "com/example/pesquisa/pesquisa/Measure") (O1 : Fld Z h0 w1 "java/lang/Enum" "ordinal" "I" (.int (1 : Int32))) (S2 : Sta Z h0 "com/example/pesquisa/pesquisa/Measure" "RECIPROCAL_RANK" "Lcom/example/pesquisa/pesquisa/Measure;" (.ref w2)) (E2 : Exa Z h0 w2 "com/example/pesquisa/pesquisa/Measure") (O2 : Fld Z h0 w2 "java/lang/Enum" "ordinal" "I" (.int (2 : Int32))) (S3 : Sta Z h0 "com/example/pesquisa/pesquisa/Measure" "RECIPROCAL_RANK_AT_10" "Lcom/example/pesquisa/pesquisa/Measure;" (.ref w3)) (E3 : Exa Z h0 w3 "com/example/pesquisa/pesquisa/Measure") (O3 : Fld Z h0 w3 "java/lang/Enum" "ordinal" "I" (.int (3 : Int32))) (S4 : Sta Z h0 "com/example/pesquisa/pesquisa/Measure" "SUCCESS_AT_10" "Lcom/example/pesquisa/pesquisa/Measure;" (.ref w4)) (E4 : Exa Z h0 w4 "com/example/pesquisa/pesquisa/Measure") (O4 : Fld Z h0 w4 "java/lang/Enum" "ordinal" "I" (.int (4 : Int32))) :
    Goes p l e s m args below meth c n0 T0 (mkF m 100 #[.val (.int i0), .val (.int i1), .val (.int i2), .val (.int i3), .val (.int i4), .val (.int kd), .val (.int (3 : Int32)), .val (.int r0), .val (.int r1), .val (.int r2), .val (.int rel), .val (.ref b), .unset, .unset, .unset, .unset, .unset, .unset, .unset, .unset] []) := by
  obtain ⟨e01, nD1, nD2, nD3, nS2, nS3, nE0, nE1, nE2, nE3⟩ := own_plain q0 (show 1 ≤ r1.toInt by omega) (show 1 ≤ r2.toInt by omega) qr
  by_cases c0 : (10 : Int32) < r0
  · have c1 : (10 : Int32) < r1 := Int32.lt_iff_toInt_lt.mpr (by have := Int32.lt_iff_toInt_lt.mp c0; omega)
    have c2 : (10 : Int32) < r2 := Int32.lt_iff_toInt_lt.mpr (by have := Int32.lt_iff_toInt_lt.mp c1; omega)
    rcases hk with rfl | rfl | rfl | rfl | rfl
    · exact own_s2 (s2_0 n0 (FP.ddiv (FP.dadd (FP.dadd (FP.ddiv FP.dconst1 (FP.i2d r0)) (FP.ddiv (4611686018427387904 : UInt64) (FP.i2d r1))) (FP.ddiv (4613937818241073152 : UInt64) (FP.i2d r2))) (FP.i2d rel)) (.val (.int i0)) (.val (.int i1)) (.val (.int i2)) (.val (.int i3)) (.val (.int i4)) (0 : Int32) (.val (.int (3 : Int32))) (.val (.int r0)) (.val (.int r1)) (.val (.int r2)) rel b w0 X0 hx hZ hw hby hml hown e0 S0 E0 (by decide) N0 (by decide) (rm3_0ft l Z a0 hw [] w0 b rel cl (3 : Int32) r0 (FP.ddiv (FP.dadd (FP.dadd (FP.ddiv FP.dconst1 (FP.i2d r0)) (FP.ddiv (4611686018427387904 : UInt64) (FP.i2d r1))) (FP.ddiv (4613937818241073152 : UInt64) (FP.i2d r2))) (FP.i2d rel)) h0 n0 Z0 Ar R.1 (by decide) (fun q => q.elim (by decide) (fun q => by rw [R.1] at q; exact absurd q (by decide))) (R.2.1 (by decide)) E0 (by decide) c0 O0 (rm5_3 l Z a0 hw [] b rel cl r0 (FP.ddiv FP.dconst1 (FP.i2d r0)) (FP.ddiv FP.dconst1 (FP.i2d r0)) r1 (FP.ddiv (4611686018427387904 : UInt64) (FP.i2d r1)) (FP.dadd (FP.ddiv FP.dconst1 (FP.i2d r0)) (FP.ddiv (4611686018427387904 : UInt64) (FP.i2d r1))) r2 (FP.ddiv (4613937818241073152 : UInt64) (FP.i2d r2)) (FP.dadd (FP.dadd (FP.ddiv FP.dconst1 (FP.i2d r0)) (FP.ddiv (4611686018427387904 : UInt64) (FP.i2d r1))) (FP.ddiv (4613937818241073152 : UInt64) (FP.i2d r2))) (FP.ddiv (FP.dadd (FP.dadd (FP.ddiv FP.dconst1 (FP.i2d r0)) (FP.ddiv (4611686018427387904 : UInt64) (FP.i2d r1))) (FP.ddiv (4613937818241073152 : UInt64) (FP.i2d r2))) (FP.i2d rel)) h0 n0 Z0 Ar R.1 (by decide) (fun q => q.elim (by decide) (fun q => by rw [R.1] at q; exact absurd q (by decide))) (R.2.1 (by decide)) (fun q => q.elim (by decide) (fun q => by rw [R.1] at q; exact absurd q (by decide))) (R.2.2.1 (by decide)) (fun q => q.elim (by decide) (fun q => by rw [R.1] at q; exact absurd q (by decide))) (R.2.2.2 (by decide)) (congrArg (fun z => FP.ddiv z (FP.i2d r0)) own_i1) (by rw [own_i1]; exact nD1) e01 (by rw [e01]; exact nD1) (congrArg (fun z => FP.ddiv z (FP.i2d r1)) own_i2) (by rw [own_i2]; exact nD2) rfl nS2 (congrArg (fun z => FP.ddiv z (FP.i2d r2)) own_i3) (by rw [own_i3]; exact nD3) rfl nS3 rfl nE3))) (fun T1 locs1 X1 e1 N1 => own_go (tl0_3 (.val (.int i0)) (.val (.int i1)) (.val (.int i2)) (.val (.int i3)) (.val (.int i4)) (0 : Int32) (3 : Int32) r0 r1 r2 rel (.val (.ref b)) (.val (.ref w0)) (.val (.double (FP.ddiv (FP.dadd (FP.dadd (FP.ddiv FP.dconst1 (FP.i2d r0)) (FP.ddiv (4611686018427387904 : UInt64) (FP.i2d r1))) (FP.ddiv (4613937818241073152 : UInt64) (FP.i2d r2))) (FP.i2d rel)))) .second (FP.ddiv FP.dconst1 (FP.i2d r0)) (FP.ddiv (4611686018427387904 : UInt64) (FP.i2d r1)) (FP.dadd (FP.ddiv FP.dconst1 (FP.i2d r0)) (FP.ddiv (4611686018427387904 : UInt64) (FP.i2d r1))) (FP.ddiv (4613937818241073152 : UInt64) (FP.i2d r2)) (FP.dadd (FP.dadd (FP.ddiv FP.dconst1 (FP.i2d r0)) (FP.ddiv (4611686018427387904 : UInt64) (FP.i2d r1))) (FP.ddiv (4613937818241073152 : UInt64) (FP.i2d r2))) (FP.ddiv (FP.dadd (FP.dadd (FP.ddiv FP.dconst1 (FP.i2d r0)) (FP.ddiv (4611686018427387904 : UInt64) (FP.i2d r1))) (FP.ddiv (4613937818241073152 : UInt64) (FP.i2d r2))) (FP.i2d rel)) X1 hx hZ hw hby hml hown e1 (by decide) (by decide) (by decide) rfl nD1 (by decide) rfl nD2 rfl nS2 (by decide) rfl nD3 rfl nS3 rfl nE3) hx hby rfl rfl (dcmpV_self nE3 .l) (by decide) (by decide) N1)
    · exact own_s2 (s2_1 n0 (FP.ddiv (FP.i2d (0 : Int32)) (4621819117588971520 : UInt64)) (.val (.int i0)) (.val (.int i1)) (.val (.int i2)) (.val (.int i3)) (.val (.int i4)) (1 : Int32) (.val (.int (3 : Int32))) (.val (.int r0)) (.val (.int r1)) (.val (.int r2)) rel b w1 X0 hx hZ hw hby hml hown e0 S1 E1 (by decide) (by decide) N0 (by decide) (rm3_1ft l Z a0 hw [] w1 b rel cl (3 : Int32) r0 (FP.ddiv (FP.i2d (0 : Int32)) (4621819117588971520 : UInt64)) (0 : Int32) h0 n0 Z0 Ar R.1 (by decide) (fun q => q.elim (by decide) (fun q => by rw [R.1] at q; exact absurd q (by decide))) (R.2.1 (by decide)) E1 (by decide) c0 rfl (own_n10 _) O1 (rm6_3t l Z a0 hw [] b (10 : Int32) cl r0 h0 n0 Z0 Ar R.1 (by decide) (fun q => q.elim (by decide) (fun q => by rw [R.1] at q; exact absurd q (by decide))) (R.2.1 (by decide)) c0))) (fun T1 locs1 X1 e1 N1 => own_go (own_then (tl1_f (.val (.int i0)) (.val (.int i1)) (.val (.int i2)) (.val (.int i3)) (.val (.int i4)) (1 : Int32) (3 : Int32) r0 (.val (.int r1)) (.val (.int r2)) (.val (.int rel)) (.val (.ref b)) (.val (.ref w1)) (.val (.double (FP.ddiv (FP.i2d (0 : Int32)) (4621819117588971520 : UInt64)))) .second X1 hx hZ hw hby hml hown e1 (by decide) (by decide) (by decide)) (fun T2 X2 e2 => own_then (b267 _ _ _ _ _ _ (3 : Int32) r0 _ _ _ _ _ _ _ _ _ _ (0 : Int32) (0 : Int32) X2 hx hZ hw hby hml hown e2 ((if_pos (by decide)).trans (if_pos c0))) (fun T3 X3 e3 => own_then (b285 _ _ _ _ _ _ (3 : Int32) _ r1 _ _ _ _ _ _ _ _ _ (0 : Int32) (0 : Int32) X3 hx hZ hw hby hml hown e3 ((if_pos (by decide)).trans (if_pos c1))) (fun T4 X4 e4 => own_then (b304 _ _ _ _ _ _ (3 : Int32) _ _ r2 _ _ _ _ _ _ _ _ (0 : Int32) (0 : Int32) X4 hx hZ hw hby hml hown e4 ((if_pos (by decide)).trans (if_pos c2))) (fun T5 X5 e5 => tl1_e _ _ _ _ _ _ _ _ _ _ _ _ _ _ _ _ (0 : Int32) (FP.ddiv (FP.i2d (0 : Int32)) (4621819117588971520 : UInt64)) X5 hx hZ hw hby hml hown e5 rfl (own_n10 _)))))) hx hby rfl rfl (dcmpV_self (own_n10 _) .l) (by decide) (by decide) N1)
    · exact own_s2 (s2_2 n0 (FP.ddiv FP.dconst1 (FP.i2d r0)) (.val (.int i0)) (.val (.int i1)) (.val (.int i2)) (.val (.int i3)) (.val (.int i4)) (2 : Int32) (.val (.int (3 : Int32))) (.val (.int r0)) (.val (.int r1)) (.val (.int r2)) rel b w2 X0 hx hZ hw hby hml hown e0 S2 E2 (by decide) (by decide) (by decide) N0 (by decide) (rm3_2ft l Z a0 hw [] w2 b rel cl (3 : Int32) r0 r0 (FP.ddiv FP.dconst1 (FP.i2d r0)) h0 n0 Z0 Ar R.1 (by decide) (fun q => q.elim (by decide) (fun q => by rw [R.1] at q; exact absurd q (by decide))) (R.2.1 (by decide)) E2 (fun q => q.elim (by decide) (fun q => by rw [R.1] at q; exact absurd q (by decide))) (R.2.1 (by decide)) (by decide) c0 rfl nD1 O2)) (fun T1 locs1 X1 e1 N1 => own_go (tl2_f (.val (.int i0)) (.val (.int i1)) (.val (.int i2)) (.val (.int i3)) (.val (.int i4)) (2 : Int32) (3 : Int32) r0 (.val (.int r1)) (.val (.int r2)) (.val (.int rel)) (.val (.ref b)) (.val (.ref w2)) (.val (.double (FP.ddiv FP.dconst1 (FP.i2d r0)))) .second (FP.ddiv FP.dconst1 (FP.i2d r0)) X1 hx hZ hw hby hml hown e1 (by decide) (by decide) (by decide) (by decide) (by decide) rfl nD1) hx hby rfl rfl (dcmpV_self nD1 .l) (by decide) (by decide) N1)
    · exact own_s2 (s2_3 n0 FP.dconst0 (.val (.int i0)) (.val (.int i1)) (.val (.int i2)) (.val (.int i3)) (.val (.int i4)) (3 : Int32) (.val (.int (3 : Int32))) (.val (.int r0)) (.val (.int r1)) (.val (.int r2)) rel b w3 X0 hx hZ hw hby hml hown e0 S3 E3 (by decide) (by decide) (by decide) (by decide) N0 (by decide) (rm3_3ft l Z a0 hw [] w3 b rel cl (3 : Int32) r0 h0 n0 Z0 Ar R.1 (by decide) (fun q => q.elim (by decide) (fun q => by rw [R.1] at q; exact absurd q (by decide))) (R.2.1 (by decide)) E3 (by decide) c0 O3)) (fun T1 locs1 X1 e1 N1 => own_go (tl3_ft (.val (.int i0)) (.val (.int i1)) (.val (.int i2)) (.val (.int i3)) (.val (.int i4)) (3 : Int32) (3 : Int32) r0 (.val (.int r1)) (.val (.int r2)) (.val (.int rel)) (.val (.ref b)) (.val (.ref w3)) (.val (.double FP.dconst0)) .second X1 hx hZ hw hby hml hown e1 (by decide) c0 (by decide) (by decide) (by decide) (by decide)) hx hby rfl rfl (dcmpV_self (Dy.zero 0).nn .l) (by decide) (by decide) N1)
    · exact own_s2 (s2_4 n0 FP.dconst0 (.val (.int i0)) (.val (.int i1)) (.val (.int i2)) (.val (.int i3)) (.val (.int i4)) (4 : Int32) (.val (.int (3 : Int32))) (.val (.int r0)) (.val (.int r1)) (.val (.int r2)) rel b w4 X0 hx hZ hw hby hml hown e0 S4 E4 (by decide) (by decide) (by decide) (by decide) N0 (by decide) (rm3_4ft l Z a0 hw [] w4 b rel cl (3 : Int32) r0 h0 n0 Z0 Ar R.1 (by decide) (fun q => q.elim (by decide) (fun q => by rw [R.1] at q; exact absurd q (by decide))) (R.2.1 (by decide)) E4 (by decide) c0 O4)) (fun T1 locs1 X1 e1 N1 => own_go (tl4_ft (.val (.int i0)) (.val (.int i1)) (.val (.int i2)) (.val (.int i3)) (.val (.int i4)) (4 : Int32) (3 : Int32) r0 (.val (.int r1)) (.val (.int r2)) (.val (.int rel)) (.val (.ref b)) (.val (.ref w4)) (.val (.double FP.dconst0)) .second X1 hx hZ hw hby hml hown e1 (by decide) c0 (by decide) (by decide) (by decide) (by decide)) hx hby rfl rfl (dcmpV_self (Dy.zero 0).nn .l) (by decide) (by decide) N1)
  · by_cases c1 : (10 : Int32) < r1
    · have c2 : (10 : Int32) < r2 := Int32.lt_iff_toInt_lt.mpr (by have := Int32.lt_iff_toInt_lt.mp c1; omega)
      rcases hk with rfl | rfl | rfl | rfl | rfl
      · exact own_s2 (s2_0 n0 (FP.ddiv (FP.dadd (FP.dadd (FP.ddiv FP.dconst1 (FP.i2d r0)) (FP.ddiv (4611686018427387904 : UInt64) (FP.i2d r1))) (FP.ddiv (4613937818241073152 : UInt64) (FP.i2d r2))) (FP.i2d rel)) (.val (.int i0)) (.val (.int i1)) (.val (.int i2)) (.val (.int i3)) (.val (.int i4)) (0 : Int32) (.val (.int (3 : Int32))) (.val (.int r0)) (.val (.int r1)) (.val (.int r2)) rel b w0 X0 hx hZ hw hby hml hown e0 S0 E0 (by decide) N0 (by decide) (rm3_0ff l Z a0 hw [] w0 b rel cl (3 : Int32) r0 (FP.ddiv (FP.dadd (FP.dadd (FP.ddiv FP.dconst1 (FP.i2d r0)) (FP.ddiv (4611686018427387904 : UInt64) (FP.i2d r1))) (FP.ddiv (4613937818241073152 : UInt64) (FP.i2d r2))) (FP.i2d rel)) h0 n0 Z0 Ar R.1 (by decide) (fun q => q.elim (by decide) (fun q => by rw [R.1] at q; exact absurd q (by decide))) (R.2.1 (by decide)) E0 (by decide) c0 O0 (rm5_3 l Z a0 hw [] b rel cl r0 (FP.ddiv FP.dconst1 (FP.i2d r0)) (FP.ddiv FP.dconst1 (FP.i2d r0)) r1 (FP.ddiv (4611686018427387904 : UInt64) (FP.i2d r1)) (FP.dadd (FP.ddiv FP.dconst1 (FP.i2d r0)) (FP.ddiv (4611686018427387904 : UInt64) (FP.i2d r1))) r2 (FP.ddiv (4613937818241073152 : UInt64) (FP.i2d r2)) (FP.dadd (FP.dadd (FP.ddiv FP.dconst1 (FP.i2d r0)) (FP.ddiv (4611686018427387904 : UInt64) (FP.i2d r1))) (FP.ddiv (4613937818241073152 : UInt64) (FP.i2d r2))) (FP.ddiv (FP.dadd (FP.dadd (FP.ddiv FP.dconst1 (FP.i2d r0)) (FP.ddiv (4611686018427387904 : UInt64) (FP.i2d r1))) (FP.ddiv (4613937818241073152 : UInt64) (FP.i2d r2))) (FP.i2d rel)) h0 n0 Z0 Ar R.1 (by decide) (fun q => q.elim (by decide) (fun q => by rw [R.1] at q; exact absurd q (by decide))) (R.2.1 (by decide)) (fun q => q.elim (by decide) (fun q => by rw [R.1] at q; exact absurd q (by decide))) (R.2.2.1 (by decide)) (fun q => q.elim (by decide) (fun q => by rw [R.1] at q; exact absurd q (by decide))) (R.2.2.2 (by decide)) (congrArg (fun z => FP.ddiv z (FP.i2d r0)) own_i1) (by rw [own_i1]; exact nD1) e01 (by rw [e01]; exact nD1) (congrArg (fun z => FP.ddiv z (FP.i2d r1)) own_i2) (by rw [own_i2]; exact nD2) rfl nS2 (congrArg (fun z => FP.ddiv z (FP.i2d r2)) own_i3) (by rw [own_i3]; exact nD3) rfl nS3 rfl nE3))) (fun T1 locs1 X1 e1 N1 => own_go (tl0_3 (.val (.int i0)) (.val (.int i1)) (.val (.int i2)) (.val (.int i3)) (.val (.int i4)) (0 : Int32) (3 : Int32) r0 r1 r2 rel (.val (.ref b)) (.val (.ref w0)) (.val (.double (FP.ddiv (FP.dadd (FP.dadd (FP.ddiv FP.dconst1 (FP.i2d r0)) (FP.ddiv (4611686018427387904 : UInt64) (FP.i2d r1))) (FP.ddiv (4613937818241073152 : UInt64) (FP.i2d r2))) (FP.i2d rel)))) .second (FP.ddiv FP.dconst1 (FP.i2d r0)) (FP.ddiv (4611686018427387904 : UInt64) (FP.i2d r1)) (FP.dadd (FP.ddiv FP.dconst1 (FP.i2d r0)) (FP.ddiv (4611686018427387904 : UInt64) (FP.i2d r1))) (FP.ddiv (4613937818241073152 : UInt64) (FP.i2d r2)) (FP.dadd (FP.dadd (FP.ddiv FP.dconst1 (FP.i2d r0)) (FP.ddiv (4611686018427387904 : UInt64) (FP.i2d r1))) (FP.ddiv (4613937818241073152 : UInt64) (FP.i2d r2))) (FP.ddiv (FP.dadd (FP.dadd (FP.ddiv FP.dconst1 (FP.i2d r0)) (FP.ddiv (4611686018427387904 : UInt64) (FP.i2d r1))) (FP.ddiv (4613937818241073152 : UInt64) (FP.i2d r2))) (FP.i2d rel)) X1 hx hZ hw hby hml hown e1 (by decide) (by decide) (by decide) rfl nD1 (by decide) rfl nD2 rfl nS2 (by decide) rfl nD3 rfl nS3 rfl nE3) hx hby rfl rfl (dcmpV_self nE3 .l) (by decide) (by decide) N1)
      · exact own_s2 (s2_1 n0 (FP.ddiv (FP.i2d (1 : Int32)) (4621819117588971520 : UInt64)) (.val (.int i0)) (.val (.int i1)) (.val (.int i2)) (.val (.int i3)) (.val (.int i4)) (1 : Int32) (.val (.int (3 : Int32))) (.val (.int r0)) (.val (.int r1)) (.val (.int r2)) rel b w1 X0 hx hZ hw hby hml hown e0 S1 E1 (by decide) (by decide) N0 (by decide) (rm3_1ff l Z a0 hw [] w1 b rel cl (3 : Int32) r0 (FP.ddiv (FP.i2d (1 : Int32)) (4621819117588971520 : UInt64)) (1 : Int32) h0 n0 Z0 Ar R.1 (by decide) (fun q => q.elim (by decide) (fun q => by rw [R.1] at q; exact absurd q (by decide))) (R.2.1 (by decide)) E1 (by decide) c0 rfl (own_n10 _) O1 (rm6_3ft l Z a0 hw [] b (10 : Int32) cl r0 r1 h0 n0 Z0 Ar R.1 (by decide) (fun q => q.elim (by decide) (fun q => by rw [R.1] at q; exact absurd q (by decide))) (R.2.1 (by decide)) (fun q => q.elim (by decide) (fun q => by rw [R.1] at q; exact absurd q (by decide))) (R.2.2.1 (by decide)) c0 c1))) (fun T1 locs1 X1 e1 N1 => own_go (own_then (tl1_f (.val (.int i0)) (.val (.int i1)) (.val (.int i2)) (.val (.int i3)) (.val (.int i4)) (1 : Int32) (3 : Int32) r0 (.val (.int r1)) (.val (.int r2)) (.val (.int rel)) (.val (.ref b)) (.val (.ref w1)) (.val (.double (FP.ddiv (FP.i2d (1 : Int32)) (4621819117588971520 : UInt64)))) .second X1 hx hZ hw hby hml hown e1 (by decide) (by decide) (by decide)) (fun T2 X2 e2 => own_then (b267 _ _ _ _ _ _ (3 : Int32) r0 _ _ _ _ _ _ _ _ _ _ (0 : Int32) (1 : Int32) X2 hx hZ hw hby hml hown e2 ((if_pos (by decide)).trans ((if_neg c0).trans (by decide)))) (fun T3 X3 e3 => own_then (b285 _ _ _ _ _ _ (3 : Int32) _ r1 _ _ _ _ _ _ _ _ _ (1 : Int32) (1 : Int32) X3 hx hZ hw hby hml hown e3 ((if_pos (by decide)).trans (if_pos c1))) (fun T4 X4 e4 => own_then (b304 _ _ _ _ _ _ (3 : Int32) _ _ r2 _ _ _ _ _ _ _ _ (1 : Int32) (1 : Int32) X4 hx hZ hw hby hml hown e4 ((if_pos (by decide)).trans (if_pos c2))) (fun T5 X5 e5 => tl1_e _ _ _ _ _ _ _ _ _ _ _ _ _ _ _ _ (1 : Int32) (FP.ddiv (FP.i2d (1 : Int32)) (4621819117588971520 : UInt64)) X5 hx hZ hw hby hml hown e5 rfl (own_n10 _)))))) hx hby rfl rfl (dcmpV_self (own_n10 _) .l) (by decide) (by decide) N1)
      · exact own_s2 (s2_2 n0 (FP.ddiv FP.dconst1 (FP.i2d r0)) (.val (.int i0)) (.val (.int i1)) (.val (.int i2)) (.val (.int i3)) (.val (.int i4)) (2 : Int32) (.val (.int (3 : Int32))) (.val (.int r0)) (.val (.int r1)) (.val (.int r2)) rel b w2 X0 hx hZ hw hby hml hown e0 S2 E2 (by decide) (by decide) (by decide) N0 (by decide) (rm3_2ff l Z a0 hw [] w2 b rel cl (3 : Int32) r0 r0 (FP.ddiv FP.dconst1 (FP.i2d r0)) h0 n0 Z0 Ar R.1 (by decide) (fun q => q.elim (by decide) (fun q => by rw [R.1] at q; exact absurd q (by decide))) (R.2.1 (by decide)) E2 (fun q => q.elim (by decide) (fun q => by rw [R.1] at q; exact absurd q (by decide))) (R.2.1 (by decide)) (by decide) c0 rfl nD1 O2)) (fun T1 locs1 X1 e1 N1 => own_go (tl2_f (.val (.int i0)) (.val (.int i1)) (.val (.int i2)) (.val (.int i3)) (.val (.int i4)) (2 : Int32) (3 : Int32) r0 (.val (.int r1)) (.val (.int r2)) (.val (.int rel)) (.val (.ref b)) (.val (.ref w2)) (.val (.double (FP.ddiv FP.dconst1 (FP.i2d r0)))) .second (FP.ddiv FP.dconst1 (FP.i2d r0)) X1 hx hZ hw hby hml hown e1 (by decide) (by decide) (by decide) (by decide) (by decide) rfl nD1) hx hby rfl rfl (dcmpV_self nD1 .l) (by decide) (by decide) N1)
      · exact own_s2 (s2_3 n0 (FP.ddiv FP.dconst1 (FP.i2d r0)) (.val (.int i0)) (.val (.int i1)) (.val (.int i2)) (.val (.int i3)) (.val (.int i4)) (3 : Int32) (.val (.int (3 : Int32))) (.val (.int r0)) (.val (.int r1)) (.val (.int r2)) rel b w3 X0 hx hZ hw hby hml hown e0 S3 E3 (by decide) (by decide) (by decide) (by decide) N0 (by decide) (rm3_3ff l Z a0 hw [] w3 b rel cl (3 : Int32) r0 r0 (FP.ddiv FP.dconst1 (FP.i2d r0)) h0 n0 Z0 Ar R.1 (by decide) (fun q => q.elim (by decide) (fun q => by rw [R.1] at q; exact absurd q (by decide))) (R.2.1 (by decide)) E3 (fun q => q.elim (by decide) (fun q => by rw [R.1] at q; exact absurd q (by decide))) (R.2.1 (by decide)) (by decide) c0 rfl nD1 O3)) (fun T1 locs1 X1 e1 N1 => own_go (tl3_ff (.val (.int i0)) (.val (.int i1)) (.val (.int i2)) (.val (.int i3)) (.val (.int i4)) (3 : Int32) (3 : Int32) r0 (.val (.int r1)) (.val (.int r2)) (.val (.int rel)) (.val (.ref b)) (.val (.ref w3)) (.val (.double (FP.ddiv FP.dconst1 (FP.i2d r0)))) .second (FP.ddiv FP.dconst1 (FP.i2d r0)) X1 hx hZ hw hby hml hown e1 (by decide) c0 (by decide) (by decide) (by decide) (by decide) rfl nD1) hx hby rfl rfl (dcmpV_self nD1 .l) (by decide) (by decide) N1)
      · exact own_s2 (s2_4 n0 FP.dconst1 (.val (.int i0)) (.val (.int i1)) (.val (.int i2)) (.val (.int i3)) (.val (.int i4)) (4 : Int32) (.val (.int (3 : Int32))) (.val (.int r0)) (.val (.int r1)) (.val (.int r2)) rel b w4 X0 hx hZ hw hby hml hown e0 S4 E4 (by decide) (by decide) (by decide) (by decide) N0 (by decide) (rm3_4ff l Z a0 hw [] w4 b rel cl (3 : Int32) r0 h0 n0 Z0 Ar R.1 (by decide) (fun q => q.elim (by decide) (fun q => by rw [R.1] at q; exact absurd q (by decide))) (R.2.1 (by decide)) E4 (by decide) c0 O4)) (fun T1 locs1 X1 e1 N1 => own_go (tl4_ff (.val (.int i0)) (.val (.int i1)) (.val (.int i2)) (.val (.int i3)) (.val (.int i4)) (4 : Int32) (3 : Int32) r0 (.val (.int r1)) (.val (.int r2)) (.val (.int rel)) (.val (.ref b)) (.val (.ref w4)) (.val (.double FP.dconst1)) .second X1 hx hZ hw hby hml hown e1 (by decide) c0 (by decide) (by decide) (by decide) (by decide)) hx hby rfl rfl (dcmpV_self Dy.one.nn .l) (by decide) (by decide) N1)
    · by_cases c2 : (10 : Int32) < r2
      · rcases hk with rfl | rfl | rfl | rfl | rfl
        · exact own_s2 (s2_0 n0 (FP.ddiv (FP.dadd (FP.dadd (FP.ddiv FP.dconst1 (FP.i2d r0)) (FP.ddiv (4611686018427387904 : UInt64) (FP.i2d r1))) (FP.ddiv (4613937818241073152 : UInt64) (FP.i2d r2))) (FP.i2d rel)) (.val (.int i0)) (.val (.int i1)) (.val (.int i2)) (.val (.int i3)) (.val (.int i4)) (0 : Int32) (.val (.int (3 : Int32))) (.val (.int r0)) (.val (.int r1)) (.val (.int r2)) rel b w0 X0 hx hZ hw hby hml hown e0 S0 E0 (by decide) N0 (by decide) (rm3_0ff l Z a0 hw [] w0 b rel cl (3 : Int32) r0 (FP.ddiv (FP.dadd (FP.dadd (FP.ddiv FP.dconst1 (FP.i2d r0)) (FP.ddiv (4611686018427387904 : UInt64) (FP.i2d r1))) (FP.ddiv (4613937818241073152 : UInt64) (FP.i2d r2))) (FP.i2d rel)) h0 n0 Z0 Ar R.1 (by decide) (fun q => q.elim (by decide) (fun q => by rw [R.1] at q; exact absurd q (by decide))) (R.2.1 (by decide)) E0 (by decide) c0 O0 (rm5_3 l Z a0 hw [] b rel cl r0 (FP.ddiv FP.dconst1 (FP.i2d r0)) (FP.ddiv FP.dconst1 (FP.i2d r0)) r1 (FP.ddiv (4611686018427387904 : UInt64) (FP.i2d r1)) (FP.dadd (FP.ddiv FP.dconst1 (FP.i2d r0)) (FP.ddiv (4611686018427387904 : UInt64) (FP.i2d r1))) r2 (FP.ddiv (4613937818241073152 : UInt64) (FP.i2d r2)) (FP.dadd (FP.dadd (FP.ddiv FP.dconst1 (FP.i2d r0)) (FP.ddiv (4611686018427387904 : UInt64) (FP.i2d r1))) (FP.ddiv (4613937818241073152 : UInt64) (FP.i2d r2))) (FP.ddiv (FP.dadd (FP.dadd (FP.ddiv FP.dconst1 (FP.i2d r0)) (FP.ddiv (4611686018427387904 : UInt64) (FP.i2d r1))) (FP.ddiv (4613937818241073152 : UInt64) (FP.i2d r2))) (FP.i2d rel)) h0 n0 Z0 Ar R.1 (by decide) (fun q => q.elim (by decide) (fun q => by rw [R.1] at q; exact absurd q (by decide))) (R.2.1 (by decide)) (fun q => q.elim (by decide) (fun q => by rw [R.1] at q; exact absurd q (by decide))) (R.2.2.1 (by decide)) (fun q => q.elim (by decide) (fun q => by rw [R.1] at q; exact absurd q (by decide))) (R.2.2.2 (by decide)) (congrArg (fun z => FP.ddiv z (FP.i2d r0)) own_i1) (by rw [own_i1]; exact nD1) e01 (by rw [e01]; exact nD1) (congrArg (fun z => FP.ddiv z (FP.i2d r1)) own_i2) (by rw [own_i2]; exact nD2) rfl nS2 (congrArg (fun z => FP.ddiv z (FP.i2d r2)) own_i3) (by rw [own_i3]; exact nD3) rfl nS3 rfl nE3))) (fun T1 locs1 X1 e1 N1 => own_go (tl0_3 (.val (.int i0)) (.val (.int i1)) (.val (.int i2)) (.val (.int i3)) (.val (.int i4)) (0 : Int32) (3 : Int32) r0 r1 r2 rel (.val (.ref b)) (.val (.ref w0)) (.val (.double (FP.ddiv (FP.dadd (FP.dadd (FP.ddiv FP.dconst1 (FP.i2d r0)) (FP.ddiv (4611686018427387904 : UInt64) (FP.i2d r1))) (FP.ddiv (4613937818241073152 : UInt64) (FP.i2d r2))) (FP.i2d rel)))) .second (FP.ddiv FP.dconst1 (FP.i2d r0)) (FP.ddiv (4611686018427387904 : UInt64) (FP.i2d r1)) (FP.dadd (FP.ddiv FP.dconst1 (FP.i2d r0)) (FP.ddiv (4611686018427387904 : UInt64) (FP.i2d r1))) (FP.ddiv (4613937818241073152 : UInt64) (FP.i2d r2)) (FP.dadd (FP.dadd (FP.ddiv FP.dconst1 (FP.i2d r0)) (FP.ddiv (4611686018427387904 : UInt64) (FP.i2d r1))) (FP.ddiv (4613937818241073152 : UInt64) (FP.i2d r2))) (FP.ddiv (FP.dadd (FP.dadd (FP.ddiv FP.dconst1 (FP.i2d r0)) (FP.ddiv (4611686018427387904 : UInt64) (FP.i2d r1))) (FP.ddiv (4613937818241073152 : UInt64) (FP.i2d r2))) (FP.i2d rel)) X1 hx hZ hw hby hml hown e1 (by decide) (by decide) (by decide) rfl nD1 (by decide) rfl nD2 rfl nS2 (by decide) rfl nD3 rfl nS3 rfl nE3) hx hby rfl rfl (dcmpV_self nE3 .l) (by decide) (by decide) N1)
        · exact own_s2 (s2_1 n0 (FP.ddiv (FP.i2d (2 : Int32)) (4621819117588971520 : UInt64)) (.val (.int i0)) (.val (.int i1)) (.val (.int i2)) (.val (.int i3)) (.val (.int i4)) (1 : Int32) (.val (.int (3 : Int32))) (.val (.int r0)) (.val (.int r1)) (.val (.int r2)) rel b w1 X0 hx hZ hw hby hml hown e0 S1 E1 (by decide) (by decide) N0 (by decide) (rm3_1ff l Z a0 hw [] w1 b rel cl (3 : Int32) r0 (FP.ddiv (FP.i2d (2 : Int32)) (4621819117588971520 : UInt64)) (2 : Int32) h0 n0 Z0 Ar R.1 (by decide) (fun q => q.elim (by decide) (fun q => by rw [R.1] at q; exact absurd q (by decide))) (R.2.1 (by decide)) E1 (by decide) c0 rfl (own_n10 _) O1 (rm6_3fft l Z a0 hw [] b (10 : Int32) cl r0 r1 r2 h0 n0 Z0 Ar R.1 (by decide) (fun q => q.elim (by decide) (fun q => by rw [R.1] at q; exact absurd q (by decide))) (R.2.1 (by decide)) (fun q => q.elim (by decide) (fun q => by rw [R.1] at q; exact absurd q (by decide))) (R.2.2.1 (by decide)) (fun q => q.elim (by decide) (fun q => by rw [R.1] at q; exact absurd q (by decide))) (R.2.2.2 (by decide)) c0 c1 c2))) (fun T1 locs1 X1 e1 N1 => own_go (own_then (tl1_f (.val (.int i0)) (.val (.int i1)) (.val (.int i2)) (.val (.int i3)) (.val (.int i4)) (1 : Int32) (3 : Int32) r0 (.val (.int r1)) (.val (.int r2)) (.val (.int rel)) (.val (.ref b)) (.val (.ref w1)) (.val (.double (FP.ddiv (FP.i2d (2 : Int32)) (4621819117588971520 : UInt64)))) .second X1 hx hZ hw hby hml hown e1 (by decide) (by decide) (by decide)) (fun T2 X2 e2 => own_then (b267 _ _ _ _ _ _ (3 : Int32) r0 _ _ _ _ _ _ _ _ _ _ (0 : Int32) (1 : Int32) X2 hx hZ hw hby hml hown e2 ((if_pos (by decide)).trans ((if_neg c0).trans (by decide)))) (fun T3 X3 e3 => own_then (b285 _ _ _ _ _ _ (3 : Int32) _ r1 _ _ _ _ _ _ _ _ _ (1 : Int32) (2 : Int32) X3 hx hZ hw hby hml hown e3 ((if_pos (by decide)).trans ((if_neg c1).trans (by decide)))) (fun T4 X4 e4 => own_then (b304 _ _ _ _ _ _ (3 : Int32) _ _ r2 _ _ _ _ _ _ _ _ (2 : Int32) (2 : Int32) X4 hx hZ hw hby hml hown e4 ((if_pos (by decide)).trans (if_pos c2))) (fun T5 X5 e5 => tl1_e _ _ _ _ _ _ _ _ _ _ _ _ _ _ _ _ (2 : Int32) (FP.ddiv (FP.i2d (2 : Int32)) (4621819117588971520 : UInt64)) X5 hx hZ hw hby hml hown e5 rfl (own_n10 _)))))) hx hby rfl rfl (dcmpV_self (own_n10 _) .l) (by decide) (by decide) N1)
        · exact own_s2 (s2_2 n0 (FP.ddiv FP.dconst1 (FP.i2d r0)) (.val (.int i0)) (.val (.int i1)) (.val (.int i2)) (.val (.int i3)) (.val (.int i4)) (2 : Int32) (.val (.int (3 : Int32))) (.val (.int r0)) (.val (.int r1)) (.val (.int r2)) rel b w2 X0 hx hZ hw hby hml hown e0 S2 E2 (by decide) (by decide) (by decide) N0 (by decide) (rm3_2ff l Z a0 hw [] w2 b rel cl (3 : Int32) r0 r0 (FP.ddiv FP.dconst1 (FP.i2d r0)) h0 n0 Z0 Ar R.1 (by decide) (fun q => q.elim (by decide) (fun q => by rw [R.1] at q; exact absurd q (by decide))) (R.2.1 (by decide)) E2 (fun q => q.elim (by decide) (fun q => by rw [R.1] at q; exact absurd q (by decide))) (R.2.1 (by decide)) (by decide) c0 rfl nD1 O2)) (fun T1 locs1 X1 e1 N1 => own_go (tl2_f (.val (.int i0)) (.val (.int i1)) (.val (.int i2)) (.val (.int i3)) (.val (.int i4)) (2 : Int32) (3 : Int32) r0 (.val (.int r1)) (.val (.int r2)) (.val (.int rel)) (.val (.ref b)) (.val (.ref w2)) (.val (.double (FP.ddiv FP.dconst1 (FP.i2d r0)))) .second (FP.ddiv FP.dconst1 (FP.i2d r0)) X1 hx hZ hw hby hml hown e1 (by decide) (by decide) (by decide) (by decide) (by decide) rfl nD1) hx hby rfl rfl (dcmpV_self nD1 .l) (by decide) (by decide) N1)
        · exact own_s2 (s2_3 n0 (FP.ddiv FP.dconst1 (FP.i2d r0)) (.val (.int i0)) (.val (.int i1)) (.val (.int i2)) (.val (.int i3)) (.val (.int i4)) (3 : Int32) (.val (.int (3 : Int32))) (.val (.int r0)) (.val (.int r1)) (.val (.int r2)) rel b w3 X0 hx hZ hw hby hml hown e0 S3 E3 (by decide) (by decide) (by decide) (by decide) N0 (by decide) (rm3_3ff l Z a0 hw [] w3 b rel cl (3 : Int32) r0 r0 (FP.ddiv FP.dconst1 (FP.i2d r0)) h0 n0 Z0 Ar R.1 (by decide) (fun q => q.elim (by decide) (fun q => by rw [R.1] at q; exact absurd q (by decide))) (R.2.1 (by decide)) E3 (fun q => q.elim (by decide) (fun q => by rw [R.1] at q; exact absurd q (by decide))) (R.2.1 (by decide)) (by decide) c0 rfl nD1 O3)) (fun T1 locs1 X1 e1 N1 => own_go (tl3_ff (.val (.int i0)) (.val (.int i1)) (.val (.int i2)) (.val (.int i3)) (.val (.int i4)) (3 : Int32) (3 : Int32) r0 (.val (.int r1)) (.val (.int r2)) (.val (.int rel)) (.val (.ref b)) (.val (.ref w3)) (.val (.double (FP.ddiv FP.dconst1 (FP.i2d r0)))) .second (FP.ddiv FP.dconst1 (FP.i2d r0)) X1 hx hZ hw hby hml hown e1 (by decide) c0 (by decide) (by decide) (by decide) (by decide) rfl nD1) hx hby rfl rfl (dcmpV_self nD1 .l) (by decide) (by decide) N1)
        · exact own_s2 (s2_4 n0 FP.dconst1 (.val (.int i0)) (.val (.int i1)) (.val (.int i2)) (.val (.int i3)) (.val (.int i4)) (4 : Int32) (.val (.int (3 : Int32))) (.val (.int r0)) (.val (.int r1)) (.val (.int r2)) rel b w4 X0 hx hZ hw hby hml hown e0 S4 E4 (by decide) (by decide) (by decide) (by decide) N0 (by decide) (rm3_4ff l Z a0 hw [] w4 b rel cl (3 : Int32) r0 h0 n0 Z0 Ar R.1 (by decide) (fun q => q.elim (by decide) (fun q => by rw [R.1] at q; exact absurd q (by decide))) (R.2.1 (by decide)) E4 (by decide) c0 O4)) (fun T1 locs1 X1 e1 N1 => own_go (tl4_ff (.val (.int i0)) (.val (.int i1)) (.val (.int i2)) (.val (.int i3)) (.val (.int i4)) (4 : Int32) (3 : Int32) r0 (.val (.int r1)) (.val (.int r2)) (.val (.int rel)) (.val (.ref b)) (.val (.ref w4)) (.val (.double FP.dconst1)) .second X1 hx hZ hw hby hml hown e1 (by decide) c0 (by decide) (by decide) (by decide) (by decide)) hx hby rfl rfl (dcmpV_self Dy.one.nn .l) (by decide) (by decide) N1)
      · rcases hk with rfl | rfl | rfl | rfl | rfl
        · exact own_s2 (s2_0 n0 (FP.ddiv (FP.dadd (FP.dadd (FP.ddiv FP.dconst1 (FP.i2d r0)) (FP.ddiv (4611686018427387904 : UInt64) (FP.i2d r1))) (FP.ddiv (4613937818241073152 : UInt64) (FP.i2d r2))) (FP.i2d rel)) (.val (.int i0)) (.val (.int i1)) (.val (.int i2)) (.val (.int i3)) (.val (.int i4)) (0 : Int32) (.val (.int (3 : Int32))) (.val (.int r0)) (.val (.int r1)) (.val (.int r2)) rel b w0 X0 hx hZ hw hby hml hown e0 S0 E0 (by decide) N0 (by decide) (rm3_0ff l Z a0 hw [] w0 b rel cl (3 : Int32) r0 (FP.ddiv (FP.dadd (FP.dadd (FP.ddiv FP.dconst1 (FP.i2d r0)) (FP.ddiv (4611686018427387904 : UInt64) (FP.i2d r1))) (FP.ddiv (4613937818241073152 : UInt64) (FP.i2d r2))) (FP.i2d rel)) h0 n0 Z0 Ar R.1 (by decide) (fun q => q.elim (by decide) (fun q => by rw [R.1] at q; exact absurd q (by decide))) (R.2.1 (by decide)) E0 (by decide) c0 O0 (rm5_3 l Z a0 hw [] b rel cl r0 (FP.ddiv FP.dconst1 (FP.i2d r0)) (FP.ddiv FP.dconst1 (FP.i2d r0)) r1 (FP.ddiv (4611686018427387904 : UInt64) (FP.i2d r1)) (FP.dadd (FP.ddiv FP.dconst1 (FP.i2d r0)) (FP.ddiv (4611686018427387904 : UInt64) (FP.i2d r1))) r2 (FP.ddiv (4613937818241073152 : UInt64) (FP.i2d r2)) (FP.dadd (FP.dadd (FP.ddiv FP.dconst1 (FP.i2d r0)) (FP.ddiv (4611686018427387904 : UInt64) (FP.i2d r1))) (FP.ddiv (4613937818241073152 : UInt64) (FP.i2d r2))) (FP.ddiv (FP.dadd (FP.dadd (FP.ddiv FP.dconst1 (FP.i2d r0)) (FP.ddiv (4611686018427387904 : UInt64) (FP.i2d r1))) (FP.ddiv (4613937818241073152 : UInt64) (FP.i2d r2))) (FP.i2d rel)) h0 n0 Z0 Ar R.1 (by decide) (fun q => q.elim (by decide) (fun q => by rw [R.1] at q; exact absurd q (by decide))) (R.2.1 (by decide)) (fun q => q.elim (by decide) (fun q => by rw [R.1] at q; exact absurd q (by decide))) (R.2.2.1 (by decide)) (fun q => q.elim (by decide) (fun q => by rw [R.1] at q; exact absurd q (by decide))) (R.2.2.2 (by decide)) (congrArg (fun z => FP.ddiv z (FP.i2d r0)) own_i1) (by rw [own_i1]; exact nD1) e01 (by rw [e01]; exact nD1) (congrArg (fun z => FP.ddiv z (FP.i2d r1)) own_i2) (by rw [own_i2]; exact nD2) rfl nS2 (congrArg (fun z => FP.ddiv z (FP.i2d r2)) own_i3) (by rw [own_i3]; exact nD3) rfl nS3 rfl nE3))) (fun T1 locs1 X1 e1 N1 => own_go (tl0_3 (.val (.int i0)) (.val (.int i1)) (.val (.int i2)) (.val (.int i3)) (.val (.int i4)) (0 : Int32) (3 : Int32) r0 r1 r2 rel (.val (.ref b)) (.val (.ref w0)) (.val (.double (FP.ddiv (FP.dadd (FP.dadd (FP.ddiv FP.dconst1 (FP.i2d r0)) (FP.ddiv (4611686018427387904 : UInt64) (FP.i2d r1))) (FP.ddiv (4613937818241073152 : UInt64) (FP.i2d r2))) (FP.i2d rel)))) .second (FP.ddiv FP.dconst1 (FP.i2d r0)) (FP.ddiv (4611686018427387904 : UInt64) (FP.i2d r1)) (FP.dadd (FP.ddiv FP.dconst1 (FP.i2d r0)) (FP.ddiv (4611686018427387904 : UInt64) (FP.i2d r1))) (FP.ddiv (4613937818241073152 : UInt64) (FP.i2d r2)) (FP.dadd (FP.dadd (FP.ddiv FP.dconst1 (FP.i2d r0)) (FP.ddiv (4611686018427387904 : UInt64) (FP.i2d r1))) (FP.ddiv (4613937818241073152 : UInt64) (FP.i2d r2))) (FP.ddiv (FP.dadd (FP.dadd (FP.ddiv FP.dconst1 (FP.i2d r0)) (FP.ddiv (4611686018427387904 : UInt64) (FP.i2d r1))) (FP.ddiv (4613937818241073152 : UInt64) (FP.i2d r2))) (FP.i2d rel)) X1 hx hZ hw hby hml hown e1 (by decide) (by decide) (by decide) rfl nD1 (by decide) rfl nD2 rfl nS2 (by decide) rfl nD3 rfl nS3 rfl nE3) hx hby rfl rfl (dcmpV_self nE3 .l) (by decide) (by decide) N1)
        · exact own_s2 (s2_1 n0 (FP.ddiv (FP.i2d (3 : Int32)) (4621819117588971520 : UInt64)) (.val (.int i0)) (.val (.int i1)) (.val (.int i2)) (.val (.int i3)) (.val (.int i4)) (1 : Int32) (.val (.int (3 : Int32))) (.val (.int r0)) (.val (.int r1)) (.val (.int r2)) rel b w1 X0 hx hZ hw hby hml hown e0 S1 E1 (by decide) (by decide) N0 (by decide) (rm3_1ff l Z a0 hw [] w1 b rel cl (3 : Int32) r0 (FP.ddiv (FP.i2d (3 : Int32)) (4621819117588971520 : UInt64)) (3 : Int32) h0 n0 Z0 Ar R.1 (by decide) (fun q => q.elim (by decide) (fun q => by rw [R.1] at q; exact absurd q (by decide))) (R.2.1 (by decide)) E1 (by decide) c0 rfl (own_n10 _) O1 (rm6_3fff l Z a0 hw [] b (10 : Int32) cl r0 r1 r2 h0 n0 Z0 Ar R.1 (by decide) (fun q => q.elim (by decide) (fun q => by rw [R.1] at q; exact absurd q (by decide))) (R.2.1 (by decide)) (fun q => q.elim (by decide) (fun q => by rw [R.1] at q; exact absurd q (by decide))) (R.2.2.1 (by decide)) (fun q => q.elim (by decide) (fun q => by rw [R.1] at q; exact absurd q (by decide))) (R.2.2.2 (by decide)) c0 c1 c2))) (fun T1 locs1 X1 e1 N1 => own_go (own_then (tl1_f (.val (.int i0)) (.val (.int i1)) (.val (.int i2)) (.val (.int i3)) (.val (.int i4)) (1 : Int32) (3 : Int32) r0 (.val (.int r1)) (.val (.int r2)) (.val (.int rel)) (.val (.ref b)) (.val (.ref w1)) (.val (.double (FP.ddiv (FP.i2d (3 : Int32)) (4621819117588971520 : UInt64)))) .second X1 hx hZ hw hby hml hown e1 (by decide) (by decide) (by decide)) (fun T2 X2 e2 => own_then (b267 _ _ _ _ _ _ (3 : Int32) r0 _ _ _ _ _ _ _ _ _ _ (0 : Int32) (1 : Int32) X2 hx hZ hw hby hml hown e2 ((if_pos (by decide)).trans ((if_neg c0).trans (by decide)))) (fun T3 X3 e3 => own_then (b285 _ _ _ _ _ _ (3 : Int32) _ r1 _ _ _ _ _ _ _ _ _ (1 : Int32) (2 : Int32) X3 hx hZ hw hby hml hown e3 ((if_pos (by decide)).trans ((if_neg c1).trans (by decide)))) (fun T4 X4 e4 => own_then (b304 _ _ _ _ _ _ (3 : Int32) _ _ r2 _ _ _ _ _ _ _ _ (2 : Int32) (3 : Int32) X4 hx hZ hw hby hml hown e4 ((if_pos (by decide)).trans ((if_neg c2).trans (by decide)))) (fun T5 X5 e5 => tl1_e _ _ _ _ _ _ _ _ _ _ _ _ _ _ _ _ (3 : Int32) (FP.ddiv (FP.i2d (3 : Int32)) (4621819117588971520 : UInt64)) X5 hx hZ hw hby hml hown e5 rfl (own_n10 _)))))) hx hby rfl rfl (dcmpV_self (own_n10 _) .l) (by decide) (by decide) N1)
        · exact own_s2 (s2_2 n0 (FP.ddiv FP.dconst1 (FP.i2d r0)) (.val (.int i0)) (.val (.int i1)) (.val (.int i2)) (.val (.int i3)) (.val (.int i4)) (2 : Int32) (.val (.int (3 : Int32))) (.val (.int r0)) (.val (.int r1)) (.val (.int r2)) rel b w2 X0 hx hZ hw hby hml hown e0 S2 E2 (by decide) (by decide) (by decide) N0 (by decide) (rm3_2ff l Z a0 hw [] w2 b rel cl (3 : Int32) r0 r0 (FP.ddiv FP.dconst1 (FP.i2d r0)) h0 n0 Z0 Ar R.1 (by decide) (fun q => q.elim (by decide) (fun q => by rw [R.1] at q; exact absurd q (by decide))) (R.2.1 (by decide)) E2 (fun q => q.elim (by decide) (fun q => by rw [R.1] at q; exact absurd q (by decide))) (R.2.1 (by decide)) (by decide) c0 rfl nD1 O2)) (fun T1 locs1 X1 e1 N1 => own_go (tl2_f (.val (.int i0)) (.val (.int i1)) (.val (.int i2)) (.val (.int i3)) (.val (.int i4)) (2 : Int32) (3 : Int32) r0 (.val (.int r1)) (.val (.int r2)) (.val (.int rel)) (.val (.ref b)) (.val (.ref w2)) (.val (.double (FP.ddiv FP.dconst1 (FP.i2d r0)))) .second (FP.ddiv FP.dconst1 (FP.i2d r0)) X1 hx hZ hw hby hml hown e1 (by decide) (by decide) (by decide) (by decide) (by decide) rfl nD1) hx hby rfl rfl (dcmpV_self nD1 .l) (by decide) (by decide) N1)
        · exact own_s2 (s2_3 n0 (FP.ddiv FP.dconst1 (FP.i2d r0)) (.val (.int i0)) (.val (.int i1)) (.val (.int i2)) (.val (.int i3)) (.val (.int i4)) (3 : Int32) (.val (.int (3 : Int32))) (.val (.int r0)) (.val (.int r1)) (.val (.int r2)) rel b w3 X0 hx hZ hw hby hml hown e0 S3 E3 (by decide) (by decide) (by decide) (by decide) N0 (by decide) (rm3_3ff l Z a0 hw [] w3 b rel cl (3 : Int32) r0 r0 (FP.ddiv FP.dconst1 (FP.i2d r0)) h0 n0 Z0 Ar R.1 (by decide) (fun q => q.elim (by decide) (fun q => by rw [R.1] at q; exact absurd q (by decide))) (R.2.1 (by decide)) E3 (fun q => q.elim (by decide) (fun q => by rw [R.1] at q; exact absurd q (by decide))) (R.2.1 (by decide)) (by decide) c0 rfl nD1 O3)) (fun T1 locs1 X1 e1 N1 => own_go (tl3_ff (.val (.int i0)) (.val (.int i1)) (.val (.int i2)) (.val (.int i3)) (.val (.int i4)) (3 : Int32) (3 : Int32) r0 (.val (.int r1)) (.val (.int r2)) (.val (.int rel)) (.val (.ref b)) (.val (.ref w3)) (.val (.double (FP.ddiv FP.dconst1 (FP.i2d r0)))) .second (FP.ddiv FP.dconst1 (FP.i2d r0)) X1 hx hZ hw hby hml hown e1 (by decide) c0 (by decide) (by decide) (by decide) (by decide) rfl nD1) hx hby rfl rfl (dcmpV_self nD1 .l) (by decide) (by decide) N1)
        · exact own_s2 (s2_4 n0 FP.dconst1 (.val (.int i0)) (.val (.int i1)) (.val (.int i2)) (.val (.int i3)) (.val (.int i4)) (4 : Int32) (.val (.int (3 : Int32))) (.val (.int r0)) (.val (.int r1)) (.val (.int r2)) rel b w4 X0 hx hZ hw hby hml hown e0 S4 E4 (by decide) (by decide) (by decide) (by decide) N0 (by decide) (rm3_4ff l Z a0 hw [] w4 b rel cl (3 : Int32) r0 h0 n0 Z0 Ar R.1 (by decide) (fun q => q.elim (by decide) (fun q => by rw [R.1] at q; exact absurd q (by decide))) (R.2.1 (by decide)) E4 (by decide) c0 O4)) (fun T1 locs1 X1 e1 N1 => own_go (tl4_ff (.val (.int i0)) (.val (.int i1)) (.val (.int i2)) (.val (.int i3)) (.val (.int i4)) (4 : Int32) (3 : Int32) r0 (.val (.int r1)) (.val (.int r2)) (.val (.int rel)) (.val (.ref b)) (.val (.ref w4)) (.val (.double FP.dconst1)) .second X1 hx hZ hw hby hml hown e1 (by decide) c0 (by decide) (by decide) (by decide) (by decide)) hx hby rfl rfl (dcmpV_self Dy.one.nn .l) (by decide) (by decide) N1)
theorem pn_0 : plainName "com/example/pesquisa/pesquisa/MeasureScorePinLaw" = true := by first | (simp [plainName, overriddenIn]; done) | decide +kernel
theorem ef_0 (m : MethodId) (x0 : Int32) (x1 : Int32) (x2 : Int32) (x3 : Int32) (x4 : Int32) : entryFrame m #[(.int x0), (.int x1), (.int x2), (.int x3), (.int x4)] maxLocals = mkF m 0 #[.val (.int x0), .val (.int x1), .val (.int x2), .val (.int x3), .val (.int x4), .unset, .unset, .unset, .unset, .unset, .unset, .unset, .unset, .unset, .unset, .unset, .unset, .unset, .unset, .unset] [] := by first | (simp [entryFrame, mkF, argsToLocals, Value.category, maxLocals]; done) | rfl
theorem own_fld {Z : State} {args : Array Value} {t : Term} {a : Addr} {C n d : String} {v : Value} (ev : t.eval args Z none [] Z = some (.ref a)) (h : (Term.field t C n d).eval args Z none [] Z = some v) : Z.fieldOf? a C n d = some v := by
  simp only [Term.eval, ev] at h
  simpa using h
theorem own_F1 (x : Int32) : 0 ≤ (F1 x).toInt ∧ (F1 x).toInt ≤ 8388607 := by
  unfold F1
  by_cases h : (x &&& (256 : Int32)) = (0 : Int32)
  · rw [if_pos h]
    have q := c_and x (7 : Int32) (by decide)
    rw [show (7 : Int32).toInt = 7 from rfl] at q; omega
  · rw [if_neg h, c_iushr x (9 : Int32) 9 (by decide) (by decide), show ((2 ^ 9 : Nat) : Int) = 512 from rfl]
    omega
theorem own_iplus {x y : Int32} (h : -2147483648 ≤ x.toInt + y.toInt ∧ x.toInt + y.toInt < 2147483648) : (x + y).toInt = x.toInt + y.toInt := by
  have h5 := c_iadd x y
  have h6 := Int32.toInt_lt (x + y)
  have h7 := Int32.le_toInt (x + y)
  omega
theorem own_kind (x : Int32) : ((x &&& (7 : Int32)) % (5 : Int32)) = (0 : Int32) ∨ ((x &&& (7 : Int32)) % (5 : Int32)) = (1 : Int32) ∨ ((x &&& (7 : Int32)) % (5 : Int32)) = (2 : Int32) ∨ ((x &&& (7 : Int32)) % (5 : Int32)) = (3 : Int32) ∨ ((x &&& (7 : Int32)) % (5 : Int32)) = (4 : Int32) := by
  have h1 := c_and x (7 : Int32) (by decide)
  have h2 := (c_irem (x &&& (7 : Int32)) (5 : Int32) 5 rfl).1 h1.1
  have e : ∀ k : Int32, ((x &&& (7 : Int32)) % (5 : Int32)) = k ↔ ((x &&& (7 : Int32)) % (5 : Int32)).toInt = k.toInt := fun k => Int32.toInt_inj.symm
  rw [e, e, e, e, e, show (0 : Int32).toInt = 0 from rfl, show (1 : Int32).toInt = 1 from rfl, show (2 : Int32).toInt = 2 from rfl, show (3 : Int32).toInt = 3 from rfl, show (4 : Int32).toInt = 4 from rfl]
  omega
theorem own_three (x : Int32) : (x &&& (3 : Int32)) = (0 : Int32) ∨ (x &&& (3 : Int32)) = (1 : Int32) ∨ (x &&& (3 : Int32)) = (2 : Int32) ∨ (x &&& (3 : Int32)) = (3 : Int32) := by
  have h1 := c_and x (3 : Int32) (by decide)
  have e : ∀ k : Int32, (x &&& (3 : Int32)) = k ↔ (x &&& (3 : Int32)).toInt = k.toInt := fun k => Int32.toInt_inj.symm
  rw [e, e, e, e, show (0 : Int32).toInt = 0 from rfl, show (1 : Int32).toInt = 1 from rfl, show (2 : Int32).toInt = 2 from rfl, show (3 : Int32).toInt = 3 from rfl]
  rw [show (3 : Int32).toInt = 3 from rfl] at h1
  omega
theorem own_ranks (a b c : Int32) : 1 ≤ ((1 : Int32) + F1 a).toInt ∧ ((1 : Int32) + F1 a).toInt < ((((1 : Int32) + F1 a) + (1 : Int32)) + F1 b).toInt ∧ ((((1 : Int32) + F1 a) + (1 : Int32)) + F1 b).toInt < ((((((1 : Int32) + F1 a) + (1 : Int32)) + F1 b) + (1 : Int32)) + F1 c).toInt := by
  have ha := own_F1 a
  have hb := own_F1 b
  have hc := own_F1 c
  have o : (1 : Int32).toInt = 1 := rfl
  have s0 := own_iplus (x := (1 : Int32)) (y := F1 a) (by rw [o]; omega)
  rw [o] at s0
  have s1 := own_iplus (x := (1 : Int32) + F1 a) (y := (1 : Int32)) (by rw [o]; omega)
  rw [o] at s1
  have s2 := own_iplus (x := ((1 : Int32) + F1 a) + (1 : Int32)) (y := F1 b) (by omega)
  have s3 := own_iplus (x := (((1 : Int32) + F1 a) + (1 : Int32)) + F1 b) (y := (1 : Int32)) (by rw [o]; omega)
  rw [o] at s3
  have s4 := own_iplus (x := ((((1 : Int32) + F1 a) + (1 : Int32)) + F1 b) + (1 : Int32)) (y := F1 c) (by omega)
  omega
theorem own_rel {z : Int32} (hz : 1 ≤ z.toInt) (hz3 : z.toInt ≤ 3) (x : Int32) : 1 ≤ (z + (x &&& (1073741823 : Int32))).toInt := by
  have h1 := c_and x (1073741823 : Int32) (by decide)
  rw [show (1073741823 : Int32).toInt = 1073741823 from rfl] at h1
  have h2 := own_iplus (x := z) (y := x &&& (1073741823 : Int32)) (by omega)
  omega
set_option maxRecDepth 65536 in
set_option maxHeartbeats 40000000 in
theorem rm0 (l : Launch) (Z : State) (a0 : Array Value) (hw : ∀ d ∈ tables_1, d.before a0 Z = true) (ws : List Jvm.Cond) (p1 : Int32) (p2 : Int32) (p3 : Int32) (p4 : Int32) (p5 : Int32) (w0 w1 w2 w3 w4 : Addr) (h0 : Heap) (n0 : Nat) (Z0 : n0 ≤ h0.size) (S0 : Sta Z h0 "com/example/pesquisa/pesquisa/Measure" "AVERAGE_PRECISION" "Lcom/example/pesquisa/pesquisa/Measure;" (.ref w0)) (E0 : Exa Z h0 w0 "com/example/pesquisa/pesquisa/Measure") (O0 : Fld Z h0 w0 "java/lang/Enum" "ordinal" "I" (.int (0 : Int32))) (S1 : Sta Z h0 "com/example/pesquisa/pesquisa/Measure" "PRECISION_AT_10" "Lcom/example/pesquisa/pesquisa/Measure;" (.ref w1)) (E1 : Exa Z h0 w1 "com/example/pesquisa/pesquisa/Measure") (O1 : Fld Z h0 w1 "java/lang/Enum" "ordinal" "I" (.int (1 : Int32))) (S2 : Sta Z h0 "com/example/pesquisa/pesquisa/Measure" "RECIPROCAL_RANK" "Lcom/example/pesquisa/pesquisa/Measure;" (.ref w2)) (E2 : Exa Z h0 w2 "com/example/pesquisa/pesquisa/Measure") (O2 : Fld Z h0 w2 "java/lang/Enum" "ordinal" "I" (.int (2 : Int32))) (S3 : Sta Z h0 "com/example/pesquisa/pesquisa/Measure" "RECIPROCAL_RANK_AT_10" "Lcom/example/pesquisa/pesquisa/Measure;" (.ref w3)) (E3 : Exa Z h0 w3 "com/example/pesquisa/pesquisa/Measure") (O3 : Fld Z h0 w3 "java/lang/Enum" "ordinal" "I" (.int (3 : Int32))) (S4 : Sta Z h0 "com/example/pesquisa/pesquisa/Measure" "SUCCESS_AT_10" "Lcom/example/pesquisa/pesquisa/Measure;" (.ref w4)) (E4 : Exa Z h0 w4 "com/example/pesquisa/pesquisa/Measure") (O4 : Fld Z h0 w4 "java/lang/Enum" "ordinal" "I" (.int (4 : Int32))) :
    MetFree l x (head1 (Jvm.Cond.code x code maxLocals ret :: ws) room_1) (fun a U => a = #[(.int p1), (.int p2), (.int p3), (.int p4), (.int p5)] ∧ Z.Warmed39 U.vm ∧ U.heap = h0) (fun _ _ _ _ _ => True) (fun _ U o U' => ∃ v L, o = .returned v ∧ QL n0 v U'.heap L ∧ FrameEnd U o U' L room_1.cells room_1.slots) := by
  refine MetFree.of_bodySF (plainFor_of_name pn_0) hisR ?_
  intro p e s m args below meth c s₁ Bd hml0 hP hK
  obtain ⟨rfl, hZ, hh⟩ := hP
  have hx := Bd.exec
  have hby := Bd.bytes
  have hml : c.maxLocals = 20 := hml0
  have hown : s.vm.findClass "com/example/pesquisa/pesquisa/MeasureScorePinLaw" = some m.cls := findClass_of_methodNamed Bd.named
  have hnm := (name_of_methodNamed Bd.named Bd.method).1
  have X0 : Stand p l e room_1 s m #[(.int p1), (.int p2), (.int p3), (.int p4), (.int p5)] below meth c s₁ [] 0 0 := Stand.of_body Bd
  have e0 : s₁.heap = h0 := by rw [← hh, Bd.state]; rfl
  have N0 := Fr.nil n0
  have pre0 : ∀ t, Steps p.tables e below (s₁.setTop (mkF m 0 #[.val (.int p1), .val (.int p2), .val (.int p3), .val (.int p4), .val (.int p5), .unset, .unset, .unset, .unset, .unset, .unset, .unset, .unset, .unset, .unset, .unset, .unset, .unset, .unset, .unset] [])) t → Steps p.tables e below (s₁.setTop (entryFrame m #[(.int p1), (.int p2), (.int p3), (.int p4), (.int p5)] maxLocals)) t := fun t k => castTop (ef_0 m p1 p2 p3 p4 p5) k
  have G : Goes p l e s m #[(.int p1), (.int p2), (.int p3), (.int p4), (.int p5)] below meth c n0 s₁ (mkF m 0 #[.val (.int p1), .val (.int p2), .val (.int p3), .val (.int p4), .val (.int p5), .unset, .unset, .unset, .unset, .unset, .unset, .unset, .unset, .unset, .unset, .unset, .unset, .unset, .unset, .unset] []) := by
    obtain ⟨q0, q1, q2⟩ := own_ranks p2 p3 p4
    rcases own_three ((p1.toUInt32 >>> ((3 : Int32) &&& 31).toUInt32).toInt32) with hn | hn | hn | hn
    · obtain ⟨T1, h1, locs1, b, cl, X1, e1, ⟨N1, K1, Ar1, R1⟩, st1⟩ := s1_0 n0 Z0 p1 p2 p3 p4 p5 _ _ _ _ _ X0 hx hZ hw hby hml hown e0 rfl hn rfl rfl rfl rfl
      obtain ⟨T2, l2, c2, s2, L2, X2, a2, b2, N2, st2⟩ := c100_0 p1 p2 p3 p4 p5 _ _ _ _ _ b w0 w1 w2 w3 w4 cl X1 hx hZ hw hby hml hown e1 N1 (Nat.le_trans Z0 K1.1) Ar1 R1 (own_kind p1) q0 q1 q2 (own_rel (z := F2 (0 : Int32) (1 : Int32)) (by decide) (by decide) p5) (own_sta0 S0 K1) (E0.keep K1) (O0.keep K1 (by simp)) (own_sta0 S1 K1) (E1.keep K1) (O1.keep K1 (by simp)) (own_sta0 S2 K1) (E2.keep K1) (O2.keep K1 (by simp)) (own_sta0 S3 K1) (E3.keep K1) (O3.keep K1 (by simp)) (own_sta0 S4 K1) (E4.keep K1) (O4.keep K1 (by simp))
      exact ⟨T2, l2, c2, s2, L2, X2, a2, b2, N2, fun t q => st1 _ (st2 _ q)⟩
    · obtain ⟨T1, h1, locs1, b, cl, X1, e1, ⟨N1, K1, Ar1, R1⟩, st1⟩ := s1_1 n0 Z0 p1 p2 p3 p4 p5 _ _ _ _ _ X0 hx hZ hw hby hml hown e0 rfl hn rfl rfl rfl rfl
      obtain ⟨T2, l2, c2, s2, L2, X2, a2, b2, N2, st2⟩ := c100_1 p1 p2 p3 p4 p5 _ _ _ _ _ b w0 w1 w2 w3 w4 cl X1 hx hZ hw hby hml hown e1 N1 (Nat.le_trans Z0 K1.1) Ar1 R1 (own_kind p1) q0 q1 q2 (own_rel (z := F2 (1 : Int32) (1 : Int32)) (by decide) (by decide) p5) (own_sta0 S0 K1) (E0.keep K1) (O0.keep K1 (by simp)) (own_sta0 S1 K1) (E1.keep K1) (O1.keep K1 (by simp)) (own_sta0 S2 K1) (E2.keep K1) (O2.keep K1 (by simp)) (own_sta0 S3 K1) (E3.keep K1) (O3.keep K1 (by simp)) (own_sta0 S4 K1) (E4.keep K1) (O4.keep K1 (by simp))
      exact ⟨T2, l2, c2, s2, L2, X2, a2, b2, N2, fun t q => st1 _ (st2 _ q)⟩
    · obtain ⟨T1, h1, locs1, b, cl, X1, e1, ⟨N1, K1, Ar1, R1⟩, st1⟩ := s1_2 n0 Z0 p1 p2 p3 p4 p5 _ _ _ _ _ X0 hx hZ hw hby hml hown e0 rfl hn rfl rfl rfl rfl
      obtain ⟨T2, l2, c2, s2, L2, X2, a2, b2, N2, st2⟩ := c100_2 p1 p2 p3 p4 p5 _ _ _ _ _ b w0 w1 w2 w3 w4 cl X1 hx hZ hw hby hml hown e1 N1 (Nat.le_trans Z0 K1.1) Ar1 R1 (own_kind p1) q0 q1 q2 (own_rel (z := F2 (2 : Int32) (1 : Int32)) (by decide) (by decide) p5) (own_sta0 S0 K1) (E0.keep K1) (O0.keep K1 (by simp)) (own_sta0 S1 K1) (E1.keep K1) (O1.keep K1 (by simp)) (own_sta0 S2 K1) (E2.keep K1) (O2.keep K1 (by simp)) (own_sta0 S3 K1) (E3.keep K1) (O3.keep K1 (by simp)) (own_sta0 S4 K1) (E4.keep K1) (O4.keep K1 (by simp))
      exact ⟨T2, l2, c2, s2, L2, X2, a2, b2, N2, fun t q => st1 _ (st2 _ q)⟩
    · obtain ⟨T1, h1, locs1, b, cl, X1, e1, ⟨N1, K1, Ar1, R1⟩, st1⟩ := s1_3 n0 Z0 p1 p2 p3 p4 p5 _ _ _ _ _ X0 hx hZ hw hby hml hown e0 rfl hn rfl rfl rfl rfl
      obtain ⟨T2, l2, c2, s2, L2, X2, a2, b2, N2, st2⟩ := c100_3 p1 p2 p3 p4 p5 _ _ _ _ _ b w0 w1 w2 w3 w4 cl X1 hx hZ hw hby hml hown e1 N1 (Nat.le_trans Z0 K1.1) Ar1 R1 (own_kind p1) q0 q1 q2 (own_rel (z := F2 (3 : Int32) (1 : Int32)) (by decide) (by decide) p5) (own_sta0 S0 K1) (E0.keep K1) (O0.keep K1 (by simp)) (own_sta0 S1 K1) (E1.keep K1) (O1.keep K1 (by simp)) (own_sta0 S2 K1) (E2.keep K1) (O2.keep K1 (by simp)) (own_sta0 S3 K1) (E3.keep K1) (O3.keep K1 (by simp)) (own_sta0 S4 K1) (E4.keep K1) (O4.keep K1 (by simp))
      exact ⟨T2, l2, c2, s2, L2, X2, a2, b2, N2, fun t q => st1 _ (st2 _ q)⟩
  obtain ⟨T', locs', ce, sl, L', X', hce, hsl, N', st⟩ := G
  obtain ⟨fs, hr, hrun, hended, hW, hsame⟩ := X'.leave (v := some (.int (1 : Int32))) (fun h => by rw [Bd.returns] at h; cases h)
  refine ⟨_, _, pre0 _ ?_, hrun, hended, _, _, rfl, ?_, ⟨_, rfl⟩, hW, hsame.mono hce hsl⟩
  · refine st _ ?_
    exact retN X' hx (t := .boolean) Bd.returns (by simp) (hb hby at_410) hr
  · exact ⟨rfl, N'⟩
set_option maxRecDepth 65536 in
set_option maxHeartbeats 40000000 in
theorem comes_1 {Post : Tables → Env → Array Value → State → Outcome → State → Prop} (hpost : ∀ tb e args s v u, (limb_1_1.after args s (.returned v) u = true ∧ limb_1_2.after args s (.returned v) u = true ∧ True) → FrameEnd s (.returned v) u (Jvm.fieldLocs frame_1_writes args s ++ Jvm.arrayLocs frame_1_arrays args s ++ Jvm.staticLocs frame_1_statics s) 16 128 → Post tb e args s (.returned v) u) :
    ArmFor flags0 classFile x code maxLocals ret World_1 tables_1 room_1 Calls_1 rest_1 Pre_1 Post := by
  intro l hfl _ _ p e ha hc hk s m args below hf hA hF happ hP
  obtain ⟨hcalls, hrest, hpre⟩ := hP
  obtain ⟨-, -, -, hnamed, -, -, -, hat⟩ := (Spec.applies_iff hf).mp happ
  obtain ⟨hg, hn⟩ := and_e (Cond.before_iff.mp (show (Jvm.Cond.and given_1 narrow_1).before args s = true from hpre))
  obtain ⟨g14, g15⟩ := and_e hg
  obtain ⟨g16, g17⟩ := and_e g15
  obtain ⟨g18, g19⟩ := and_e g17
  obtain ⟨g20, g21⟩ := and_e g19
  obtain ⟨g22, g23⟩ := and_e g21
  obtain ⟨w0, w1, w2, w3, w4, rfl⟩ : ∃ w0 w1 w2 w3 w4 : Value, args = #[w0, w1, w2, w3, w4] := by
    have hs : args.size = 5 := by simpa [Cond.value, given_1] using g14
    obtain ⟨L⟩ := args
    match L, hs with
    | [w0, w1, w2, w3, w4], _ => exact ⟨w0, w1, w2, w3, w4, rfl⟩
  have hw := fun d (hd : d ∈ tables_1) => atoms_spec (ws := Jvm.Cond.code x code maxLocals ret :: tables_1) hat d (List.mem_cons_of_mem _ hd)
  have hfit : Fit s := fun {y c} hc i hi => by
    obtain ⟨ha, rfl⟩ := Array.getElem?_eq_some_iff.mp hc
    have q := List.all_eq_true.mp ((Array.all_eq_true_iff_forall_mem.mp hF) _ (Array.getElem_mem ha)) i (List.mem_range.mpr hi)
    simpa [Array.getElem?_eq_getElem hi] using q
  obtain ⟨i0, ei0⟩ := is_v g16
  obtain rfl : w0 = (.int i0) := Option.some.inj ei0
  obtain ⟨i1, ei1⟩ := is_v g18
  obtain rfl : w1 = (.int i1) := Option.some.inj ei1
  obtain ⟨i2, ei2⟩ := is_v g20
  obtain rfl : w2 = (.int i2) := Option.some.inj ei2
  obtain ⟨i3, ei3⟩ := is_v g22
  obtain rfl : w3 = (.int i3) := Option.some.inj ei3
  obtain ⟨i4, ei4⟩ := is_v g23
  obtain rfl : w4 = (.int i4) := Option.some.inj ei4
  obtain ⟨na0, t0a⟩ := and_e hn
  obtain ⟨nb0, t0b⟩ := and_e t0a
  obtain ⟨y0, ey0⟩ := exa_v na0
  have E0 := Exa.start ey0 na0
  have S0 : Sta s s.heap "com/example/pesquisa/pesquisa/Measure" "AVERAGE_PRECISION" "Lcom/example/pesquisa/pesquisa/Measure;" (.ref y0) := Sta.start ey0 (Or.inr ⟨hw _ (List.mem_of_getElem? (i := 11) rfl), hw _ (List.mem_of_getElem? (i := 12) rfl)⟩)
  have O0 : Fld s s.heap y0 "java/lang/Enum" "ordinal" "I" (.int (0 : Int32)) := Fld.start (own_fld ey0 (eqv_i rfl nb0))
  obtain ⟨na3, t3a⟩ := and_e t0b
  obtain ⟨nb3, t3b⟩ := and_e t3a
  obtain ⟨y3, ey3⟩ := exa_v na3
  have E3 := Exa.start ey3 na3
  have S3 : Sta s s.heap "com/example/pesquisa/pesquisa/Measure" "RECIPROCAL_RANK_AT_10" "Lcom/example/pesquisa/pesquisa/Measure;" (.ref y3) := Sta.start ey3 (Or.inr ⟨hw _ (List.mem_of_getElem? (i := 11) rfl), hw _ (List.mem_of_getElem? (i := 31) rfl)⟩)
  have O3 : Fld s s.heap y3 "java/lang/Enum" "ordinal" "I" (.int (3 : Int32)) := Fld.start (own_fld ey3 (eqv_i rfl nb3))
  obtain ⟨na2, t2a⟩ := and_e t3b
  obtain ⟨nb2, t2b⟩ := and_e t2a
  obtain ⟨y2, ey2⟩ := exa_v na2
  have E2 := Exa.start ey2 na2
  have S2 : Sta s s.heap "com/example/pesquisa/pesquisa/Measure" "RECIPROCAL_RANK" "Lcom/example/pesquisa/pesquisa/Measure;" (.ref y2) := Sta.start ey2 (Or.inr ⟨hw _ (List.mem_of_getElem? (i := 11) rfl), hw _ (List.mem_of_getElem? (i := 35) rfl)⟩)
  have O2 : Fld s s.heap y2 "java/lang/Enum" "ordinal" "I" (.int (2 : Int32)) := Fld.start (own_fld ey2 (eqv_i rfl nb2))
  obtain ⟨na1, t1a⟩ := and_e t2b
  obtain ⟨nb1, t1b⟩ := and_e t1a
  obtain ⟨y1, ey1⟩ := exa_v na1
  have E1 := Exa.start ey1 na1
  have S1 : Sta s s.heap "com/example/pesquisa/pesquisa/Measure" "PRECISION_AT_10" "Lcom/example/pesquisa/pesquisa/Measure;" (.ref y1) := Sta.start ey1 (Or.inr ⟨hw _ (List.mem_of_getElem? (i := 11) rfl), hw _ (List.mem_of_getElem? (i := 37) rfl)⟩)
  have O1 : Fld s s.heap y1 "java/lang/Enum" "ordinal" "I" (.int (1 : Int32)) := Fld.start (own_fld ey1 (eqv_i rfl nb1))
  obtain ⟨na4, t4a⟩ := and_e t1b
  have nb4 := t4a
  obtain ⟨y4, ey4⟩ := exa_v na4
  have E4 := Exa.start ey4 na4
  have S4 : Sta s s.heap "com/example/pesquisa/pesquisa/Measure" "SUCCESS_AT_10" "Lcom/example/pesquisa/pesquisa/Measure;" (.ref y4) := Sta.start ey4 (Or.inr ⟨hw _ (List.mem_of_getElem? (i := 11) rfl), hw _ (List.mem_of_getElem? (i := 44) rfl)⟩)
  have O4 : Fld s s.heap y4 "java/lang/Enum" "ordinal" "I" (.int (4 : Int32)) := Fld.start (own_fld ey4 (eqv_i rfl nb4))
  obtain ⟨n, o, h1, h2, h3, _, L, rfl, ⟨rfl, N⟩, hq⟩ := rm0 l s _ hw tables_1 i0 i1 i2 i3 i4 y0 y1 y2 y3 y4 s.heap s.heap.size (Nat.le_refl _) S0 E0 O0 S1 E1 O1 S2 E2 O2 S3 E3 O3 S4 E4 O4 p e ha hc hk s m _ below hf ((Spec.applies_iff_loose hf).mp happ).1 ⟨rfl, State.Warmed39.refl s, rfl⟩ trivial
  refine ⟨n, _, h1, h2, h3, hpost _ _ _ _ _ _ ⟨Cond.after_iff.mpr rfl, Cond.after_iff.mpr (eq_i res_at (Term.int_eval (1)) rfl), trivial⟩ ⟨hq.1, hq.2.1, (hq.2.2.sift fun y hy => Or.inr (N y hy)).mono (by decide) (by decide)⟩⟩
theorem main_1_1 : Claimed_1_1 := comes_1 fun _ _ _ _ _ _ h hF => ⟨h.1, hF⟩
theorem main_1_2 : Claimed_1_2 := comes_1 fun _ _ _ _ _ _ h hF => ⟨h.2.1, hF⟩

end Jvm.Pilot.@@N@@
namespace Jvm.Pilot.@@N@@
open Jvm Jvm.ClassFile Sem Op Lib Jvm.Free Jvm.Stand Jvm.Pilot.@@N@@.Jvm.D
/-! MADE BY PROGRAM (witnessworld.py) out of the Statement's table words and the real class files: 13 classes; the members and pool entries that the words name. The judged class is class 1, her method 2. -/
namespace start1
open Jvm.ClassFile
def u (s : String) : CpInfo := .utf8 (stringToUtf16 s)
/-- a pool by its gaps: so many unusable entries, then the entry; so many at the end -/
def gap : Nat → List CpInfo → List CpInfo
  | 0, r => r
  | n + 1, r => .unusable :: gap n r
def poolList (es : List (Nat × CpInfo)) (last : Nat) : List CpInfo := es.foldr (fun e r => gap e.1 (e.2 :: r)) (gap last [])
def pool (es : List (Nat × CpInfo)) (last : Nat) : Array CpInfo := ⟨poolList es last⟩
def fileOf (pool : Array CpInfo) (this : Nat) (attrs : Array Attribute := #[]) (ms : Array MethodInfo := #[]) (fl : Nat := 33) (sup : Nat := 0) (ifs : Array Nat := #[]) (fds : Array FieldInfo := #[]) : ClassFile where
  minorVersion := 0
  majorVersion := 65
  constantPool := pool
  accessFlags := fl
  thisClass := this
  superClass := sup
  interfaces := ifs
  fields := fds
  methods := ms
  attributes := attrs
def plain (name : String) (sup : Option ClassId) : Class where
  name := name
  kind := .ordinary
  loader := none
  accessFlags := 33
  super := sup
  interfaces := #[]
  cf := none
  fields := #[]
  methods := #[]
  instanceTypes := #[]
  staticTypes := #[]
  resolved := #[]
  callSites := []
  init := .initialized
  statics := none
  mirror := none

def pool0 : Array CpInfo := pool [(5, u "<init>"), (0, u "()V"), (1, .class_ 10), (1, u "java/lang/Object")] 113

def k0m0 : Method := { name := "<init>", desc := "()V", sig := { parameters := [], returnType := none }, accessFlags := 1, code := none }
/-- java/lang/Object -/
def k0 : Class := { plain "java/lang/Object" none with
  accessFlags := 33
  interfaces := #[]
  cf := some (fileOf pool0 8 #[] #[{ accessFlags := 1, nameIndex := 5, descriptorIndex := 6, attributes := #[] }] 33 0 #[] #[])
  fields := #[]
  methods := #[k0m0]
  instanceTypes := #[]
  staticTypes := #[]
  resolved := Array.replicate 124 none
  statics := none }

def pool1 : Array CpInfo := pool [(2, .class_ 4), (1, u "java/lang/Object"), (0, u "<init>"), (0, u "()V"), (0, .methodref 8 9), (0, .class_ 10), (0, .nameAndType 11 12), (0, u "com/example/pesquisa/pesquisa/MeasureScorePinLaw"), (0, u "gap"), (0, u "(I)I"), (0, .methodref 14 15), (0, .class_ 16), (0, .nameAndType 17 18), (0, u "java/lang/Math"), (0, u "max"), (0, u "(II)I"), (0, .integer 1073741823), (0, .fieldref 21 22), (0, .class_ 23), (0, .nameAndType 24 25), (0, u "com/example/pesquisa/pesquisa/Measure"), (0, u "AVERAGE_PRECISION"), (0, u "Lcom/example/pesquisa/pesquisa/Measure;"), (0, .fieldref 21 27), (0, .nameAndType 28 25), (0, u "PRECISION_AT_10"), (0, .fieldref 21 30), (0, .nameAndType 31 25), (0, u "RECIPROCAL_RANK"), (0, .fieldref 21 33), (0, .nameAndType 34 25), (0, u "RECIPROCAL_RANK_AT_10"), (0, .fieldref 21 36), (0, .nameAndType 37 25), (0, u "SUCCESS_AT_10"), (0, .methodref 21 39), (0, .nameAndType 40 41), (0, u "score"), (0, u "([II)D"), (0, .double 4611686018427387904), (1, .double 4613937818241073152), (1, .double 4621819117588971520), (4, u "law"), (0, u "(IIIII)Z")] 4

def k1m0 : Method := { name := "<init>", desc := "()V", sig := { parameters := [], returnType := none }, accessFlags := 1, code := none }
def k1c1 : Code := { maxStack := 2, maxLocals := 1, code := method_2_code, exceptionTable := #[], attributes := #[] }
def k1m1 : Method := { name := "gap", desc := "(I)I", sig := { parameters := [.int], returnType := some .int }, accessFlags := 10, code := some k1c1 }
def k1c2 : Code := { maxStack := 6, maxLocals := 20, code := code, exceptionTable := #[], attributes := #[] }
def k1m2 : Method := { name := "law", desc := "(IIIII)Z", sig := { parameters := [.int, .int, .int, .int, .int], returnType := some .boolean }, accessFlags := 9, code := some k1c2 }
/-- com/example/pesquisa/pesquisa/MeasureScorePinLaw -/
def k1 : Class := { plain "com/example/pesquisa/pesquisa/MeasureScorePinLaw" (some 0) with
  accessFlags := 49
  interfaces := #[]
  cf := some (fileOf pool1 8 #[] #[{ accessFlags := 1, nameIndex := 5, descriptorIndex := 6, attributes := #[] }, { accessFlags := 10, nameIndex := 11, descriptorIndex := 12, attributes := #[] }, { accessFlags := 9, nameIndex := 51, descriptorIndex := 52, attributes := #[] }] 49 2 #[] #[])
  fields := #[]
  methods := #[k1m0, k1m1, k1m2]
  instanceTypes := #[]
  staticTypes := #[]
  resolved := Array.replicate 57 none
  statics := none }

def pool2 : Array CpInfo := pool [(1, .class_ 2), (0, u "java/lang/Math"), (1, .class_ 6), (1, u "java/lang/Object"), (0, u "<init>"), (0, u "()V"), (89, .class_ 100), (1, u "java/lang/Math$RandomNumberGeneratorHolder"), (71, u "negativeZeroFloatBits"), (0, u "J"), (2, u "negativeZeroDoubleBits"), (21, u "max"), (46, u "$assertionsDisabled"), (0, u "Z"), (88, u "(II)I"), (2, u "twoToTheDoubleScaleDown"), (0, u "D"), (4, u "twoToTheDoubleScaleUp"), (9, u "E"), (3, u "PI"), (2, u "TAU"), (2, u "DEGREES_TO_RADIANS"), (0, u "RADIANS_TO_DEGREES")] 94

def k2m0 : Method := { name := "<init>", desc := "()V", sig := { parameters := [], returnType := none }, accessFlags := 2, code := none }
def k2c1 : Code := { maxStack := 2, maxLocals := 2, code := jdk_29_method_65_code, exceptionTable := #[], attributes := #[] }
def k2m1 : Method := { name := "max", desc := "(II)I", sig := { parameters := [.int, .int], returnType := some .int }, accessFlags := 9, code := some k2c1 }
/-- java/lang/Math -/
def k2 : Class := { plain "java/lang/Math" (some 0) with
  accessFlags := 49
  interfaces := #[]
  cf := some (fileOf pool2 1 #[.nestMembers #[98]] #[{ accessFlags := 2, nameIndex := 7, descriptorIndex := 8, attributes := #[] }, { accessFlags := 9, nameIndex := 198, descriptorIndex := 335, attributes := #[] }] 49 4 #[] #[{ accessFlags := 25, nameIndex := 354, descriptorIndex := 339, attributes := #[] }, { accessFlags := 25, nameIndex := 358, descriptorIndex := 339, attributes := #[] }, { accessFlags := 25, nameIndex := 361, descriptorIndex := 339, attributes := #[] }, { accessFlags := 26, nameIndex := 364, descriptorIndex := 339, attributes := #[] }, { accessFlags := 26, nameIndex := 365, descriptorIndex := 339, attributes := #[] }, { accessFlags := 26, nameIndex := 172, descriptorIndex := 173, attributes := #[] }, { accessFlags := 26, nameIndex := 176, descriptorIndex := 173, attributes := #[] }, { accessFlags := 8, nameIndex := 344, descriptorIndex := 339, attributes := #[] }, { accessFlags := 8, nameIndex := 338, descriptorIndex := 339, attributes := #[] }, { accessFlags := 4120, nameIndex := 245, descriptorIndex := 246, attributes := #[] }])
  fields := #[{ name := "E", type := .double, accessFlags := 25, slot := 0, constantValue := 0 }, { name := "PI", type := .double, accessFlags := 25, slot := 1, constantValue := 0 }, { name := "TAU", type := .double, accessFlags := 25, slot := 2, constantValue := 0 }, { name := "DEGREES_TO_RADIANS", type := .double, accessFlags := 26, slot := 3, constantValue := 0 }, { name := "RADIANS_TO_DEGREES", type := .double, accessFlags := 26, slot := 4, constantValue := 0 }, { name := "negativeZeroFloatBits", type := .long, accessFlags := 26, slot := 5, constantValue := 0 }, { name := "negativeZeroDoubleBits", type := .long, accessFlags := 26, slot := 6, constantValue := 0 }, { name := "twoToTheDoubleScaleUp", type := .double, accessFlags := 8, slot := 7, constantValue := 0 }, { name := "twoToTheDoubleScaleDown", type := .double, accessFlags := 8, slot := 8, constantValue := 0 }, { name := "$assertionsDisabled", type := .boolean, accessFlags := 4120, slot := 9, constantValue := 0 }]
  methods := #[k2m0, k2m1]
  instanceTypes := #[]
  staticTypes := #[.double, .double, .double, .double, .double, .long, .long, .double, .double, .boolean]
  resolved := Array.replicate 460 none
  statics := none }

def pool3 : Array CpInfo := pool [(1, .class_ 2), (0, u "java/lang/constant/Constable"), (0, .class_ 4), (0, u "java/lang/Object")] 6

/-- java/lang/constant/Constable -/
def k3 : Class := { plain "java/lang/constant/Constable" (some 0) with
  accessFlags := 1537
  interfaces := #[]
  cf := some (fileOf pool3 1 #[] #[] 1537 3 #[] #[])
  fields := #[]
  methods := #[]
  instanceTypes := #[]
  staticTypes := #[]
  resolved := Array.replicate 11 none
  statics := none }

def pool4 : Array CpInfo := pool [(1, .class_ 2), (0, u "java/lang/Comparable"), (0, .class_ 4), (0, u "java/lang/Object")] 7

/-- java/lang/Comparable -/
def k4 : Class := { plain "java/lang/Comparable" (some 0) with
  accessFlags := 1537
  interfaces := #[]
  cf := some (fileOf pool4 1 #[] #[] 1537 3 #[] #[])
  fields := #[]
  methods := #[]
  instanceTypes := #[]
  staticTypes := #[]
  resolved := Array.replicate 12 none
  statics := none }

def pool5 : Array CpInfo := pool [(1, .class_ 2), (0, u "java/io/Serializable"), (0, .class_ 4), (0, u "java/lang/Object")] 2

/-- java/io/Serializable -/
def k5 : Class := { plain "java/io/Serializable" (some 0) with
  accessFlags := 1537
  interfaces := #[]
  cf := some (fileOf pool5 1 #[] #[] 1537 3 #[] #[])
  fields := #[]
  methods := #[]
  instanceTypes := #[]
  staticTypes := #[]
  resolved := Array.replicate 7 none
  statics := none }

def pool6 : Array CpInfo := pool [(2, .class_ 4), (1, u "java/lang/Enum"), (0, u "name"), (0, u "Ljava/lang/String;"), (0, .fieldref 2 8), (0, .nameAndType 9 10), (0, u "ordinal"), (0, u "I"), (1, .class_ 14), (1, u "java/lang/Object"), (4, u "hash"), (86, .class_ 108), (1, u "java/lang/Enum$EnumDesc"), (2, .class_ 112), (0, u "java/lang/constant/Constable"), (0, .class_ 114), (0, u "java/lang/Comparable"), (0, .class_ 116), (0, u "java/io/Serializable"), (9, u "()I")] 77

def k6c0 : Code := { maxStack := 1, maxLocals := 1, code := jdk_37_method_2_code, exceptionTable := #[], attributes := #[] }
def k6m0 : Method := { name := "ordinal", desc := "()I", sig := { parameters := [], returnType := some .int }, accessFlags := 17, code := some k6c0 }
/-- java/lang/Enum -/
def k6 : Class := { plain "java/lang/Enum" (some 0) with
  accessFlags := 1057
  interfaces := #[3, 4, 5]
  cf := some (fileOf pool6 2 #[.nestMembers #[106]] #[{ accessFlags := 17, nameIndex := 9, descriptorIndex := 126, attributes := #[] }] 1057 12 #[111, 113, 115] #[{ accessFlags := 18, nameIndex := 5, descriptorIndex := 6, attributes := #[] }, { accessFlags := 18, nameIndex := 9, descriptorIndex := 10, attributes := #[] }, { accessFlags := 2, nameIndex := 19, descriptorIndex := 10, attributes := #[] }])
  fields := #[{ name := "name", type := (.object "java/lang/String"), accessFlags := 18, slot := 0, constantValue := 0 }, { name := "ordinal", type := .int, accessFlags := 18, slot := 1, constantValue := 0 }, { name := "hash", type := .int, accessFlags := 2, slot := 2, constantValue := 0 }]
  methods := #[k6m0]
  instanceTypes := #[(.object "java/lang/String"), .int, .int]
  staticTypes := #[]
  resolved := Array.replicate 204 none
  statics := none }

def pool7 : Array CpInfo := pool [(1, .class_ 2), (0, u "com/example/pesquisa/pesquisa/Measure"), (2, u "AVERAGE_PRECISION"), (0, u "Lcom/example/pesquisa/pesquisa/Measure;"), (2, u "PRECISION_AT_10"), (2, u "RECIPROCAL_RANK"), (2, u "RECIPROCAL_RANK_AT_10"), (2, u "SUCCESS_AT_10"), (2, u "$VALUES"), (0, u "[Lcom/example/pesquisa/pesquisa/Measure;"), (6, .class_ 31), (1, u "java/lang/Enum"), (8, u "columnName"), (0, u "Ljava/lang/String;"), (0, .methodref 1 43), (0, .nameAndType 44 45), (0, u "ordinal"), (0, u "()I"), (5, .methodref 1 52), (0, .nameAndType 53 54), (0, u "averagePrecision"), (0, u "([II)D"), (0, .methodref 1 56), (0, .nameAndType 57 58), (0, u "foundBy"), (0, u "([II)I"), (0, .double 4621819117588971520), (23, u "CUTOFF"), (0, u "I"), (10, u "score")] 6

def k7c0 : Code := { maxStack := 4, maxLocals := 5, code := prog_6_method_5_code, exceptionTable := #[], attributes := #[] }
def k7m0 : Method := { name := "score", desc := "([II)D", sig := { parameters := [(.array .int), .int], returnType := some .double }, accessFlags := 0, code := some k7c0 }
def k7c1 : Code := { maxStack := 6, maxLocals := 5, code := prog_6_method_6_code, exceptionTable := #[], attributes := #[] }
def k7m1 : Method := { name := "averagePrecision", desc := "([II)D", sig := { parameters := [(.array .int), .int], returnType := some .double }, accessFlags := 10, code := some k7c1 }
def k7c2 : Code := { maxStack := 2, maxLocals := 3, code := prog_6_method_7_code, exceptionTable := #[], attributes := #[] }
def k7m2 : Method := { name := "foundBy", desc := "([II)I", sig := { parameters := [(.array .int), .int], returnType := some .int }, accessFlags := 10, code := some k7c2 }
/-- com/example/pesquisa/pesquisa/Measure -/
def k7 : Class := { plain "com/example/pesquisa/pesquisa/Measure" (some 6) with
  accessFlags := 16433
  interfaces := #[]
  cf := some (fileOf pool7 1 #[] #[{ accessFlags := 0, nameIndex := 95, descriptorIndex := 54, attributes := #[] }, { accessFlags := 10, nameIndex := 53, descriptorIndex := 54, attributes := #[] }, { accessFlags := 10, nameIndex := 57, descriptorIndex := 58, attributes := #[] }] 16433 29 #[] #[{ accessFlags := 16409, nameIndex := 5, descriptorIndex := 6, attributes := #[] }, { accessFlags := 16409, nameIndex := 9, descriptorIndex := 6, attributes := #[] }, { accessFlags := 16409, nameIndex := 12, descriptorIndex := 6, attributes := #[] }, { accessFlags := 16409, nameIndex := 15, descriptorIndex := 6, attributes := #[] }, { accessFlags := 16409, nameIndex := 18, descriptorIndex := 6, attributes := #[] }, { accessFlags := 26, nameIndex := 83, descriptorIndex := 84, attributes := #[] }, { accessFlags := 18, nameIndex := 40, descriptorIndex := 41, attributes := #[] }, { accessFlags := 4122, nameIndex := 21, descriptorIndex := 22, attributes := #[] }])
  fields := #[{ name := "AVERAGE_PRECISION", type := (.object "com/example/pesquisa/pesquisa/Measure"), accessFlags := 16409, slot := 0, constantValue := 0 }, { name := "PRECISION_AT_10", type := (.object "com/example/pesquisa/pesquisa/Measure"), accessFlags := 16409, slot := 1, constantValue := 0 }, { name := "RECIPROCAL_RANK", type := (.object "com/example/pesquisa/pesquisa/Measure"), accessFlags := 16409, slot := 2, constantValue := 0 }, { name := "RECIPROCAL_RANK_AT_10", type := (.object "com/example/pesquisa/pesquisa/Measure"), accessFlags := 16409, slot := 3, constantValue := 0 }, { name := "SUCCESS_AT_10", type := (.object "com/example/pesquisa/pesquisa/Measure"), accessFlags := 16409, slot := 4, constantValue := 0 }, { name := "CUTOFF", type := .int, accessFlags := 26, slot := 5, constantValue := 0 }, { name := "columnName", type := (.object "java/lang/String"), accessFlags := 18, slot := 3, constantValue := 0 }, { name := "$VALUES", type := (.array (.object "com/example/pesquisa/pesquisa/Measure")), accessFlags := 4122, slot := 6, constantValue := 0 }]
  methods := #[k7m0, k7m1, k7m2]
  instanceTypes := #[(.object "java/lang/String"), .int, .int, (.object "java/lang/String")]
  staticTypes := #[(.object "com/example/pesquisa/pesquisa/Measure"), (.object "com/example/pesquisa/pesquisa/Measure"), (.object "com/example/pesquisa/pesquisa/Measure"), (.object "com/example/pesquisa/pesquisa/Measure"), (.object "com/example/pesquisa/pesquisa/Measure"), .int, (.array (.object "com/example/pesquisa/pesquisa/Measure"))]
  resolved := Array.replicate 102 none
  statics := some 0 }

def pool8 : Array CpInfo := pool [(1, u "java/lang/Cloneable"), (0, .class_ 1), (0, u "java/lang/Object"), (0, .class_ 3)] 3

/-- java/lang/Cloneable -/
def k8 : Class := { plain "java/lang/Cloneable" (some 0) with
  accessFlags := 1537
  interfaces := #[]
  cf := some (fileOf pool8 2 #[] #[] 1537 4 #[] #[])
  fields := #[]
  methods := #[]
  instanceTypes := #[]
  staticTypes := #[]
  resolved := Array.replicate 8 none
  statics := none }

/-- the primitive byte -/
def k9 : Class := { plain "byte" none with kind := .primitive 'B', accessFlags := 0x411 }
/-- [B -/
def k10 : Class := { plain "[B" (some 0) with kind := .array 9 .byte, interfaces := #[8, 5], accessFlags := 1041 }

/-- the primitive int -/
def k11 : Class := { plain "int" none with kind := .primitive 'I', accessFlags := 0x411 }
/-- [I -/
def k12 : Class := { plain "[I" (some 0) with kind := .array 11 .int, interfaces := #[8, 5], accessFlags := 1041 }

def heap : Heap := #[{ cls := 7, slots := #[.ref 1, .ref 2, .ref 3, .ref 4, .ref 5, .int 0, .null], vm := .statics 7 },
  { cls := 7, slots := #[.null, .int 0, .int 0, .null], vm := .none },
  { cls := 7, slots := #[.null, .int 1, .int 0, .null], vm := .none },
  { cls := 7, slots := #[.null, .int 2, .int 0, .null], vm := .none },
  { cls := 7, slots := #[.null, .int 3, .int 0, .null], vm := .none },
  { cls := 7, slots := #[.null, .int 4, .int 0, .null], vm := .none }]
def classes : Array Class := #[k0, k1, k2, k3, k4, k5, k6, k7, k8, k9, k10, k11, k12]
def interned : List (Array UInt16 × Addr) := []
def slotsUsed : Nat := 27
def theMethod : MethodId := ⟨1, 2⟩
def args0 : Array Value := #[.int 17, .int 7, .int 9, .int 3, .int 1]
def aboutOver (below : List Frame) : State where
  vm := { classes := classes, interned := interned.toArray }
  heap := heap
  slotsUsed := slotsUsed
  threads := #[{ frames := .invoking theMethod args0 :: below }]
def below0 : List Frame := [.native { method := ⟨0, 0⟩, args := #[] }]
def about1 : State := aboutOver below0
def p0 : Program := .bare "" "" ""
def e0 : Env := launch0.env 0 0 0
theorem w_frames : about1.frames = Frame.invoking theMethod args0 :: below0 := rfl
set_option maxRecDepth 65536 in
theorem w_args : argsFit about1.vm theMethod args0 = true := by decide +kernel
set_option maxRecDepth 65536 in
theorem w_heap : heapFits about1 = true := by decide +kernel
set_option maxRecDepth 65536 in
theorem w_runnable : about1.curStatus? = some .runnable := by decide +kernel
set_option maxRecDepth 65536 in
theorem w_alone : about1.alone = true := by decide +kernel
set_option maxRecDepth 65536 in
theorem w_named : about1.methodNamed? x = some theMethod := by decide +kernel
set_option maxRecDepth 65536 in
theorem w_hears : about1.hears theMethod below0 = true := by decide +kernel
set_option maxRecDepth 65536 in
theorem w_ripe : about1.ripe theMethod args0 below0 = true := by decide +kernel
theorem w_running : about1.status = .running := rfl
set_option maxRecDepth 65536 in
theorem w_room : about1.hasRoom e0.platform room_1 = true :=
  launch0.hasRoom_least _ room_1 (by decide +kernel) (by decide +kernel) (by decide +kernel) (by decide +kernel) (by decide +kernel) (by decide +kernel)
theorem allAtoms_all (ts : List Jvm.Cond) (a : Array Jvm.Value) (st : Jvm.State) : (allAtoms ts).before a st = ts.all (fun c => c.before a st) := by
  induction ts with
  | nil => rfl
  | cons c t ih =>
    show (Jvm.Cond.and c (allAtoms t)).before a st = _
    rw [Jvm.Cond.before_and, ih, List.all_cons]
def words1 : List Jvm.Cond := Jvm.Cond.code x code maxLocals ret :: tables_1
/-- a 'code' word, met by the world's own term for the bytes: nothing is compared byte by byte -/
theorem code_word {y : MethodName} {bytes : ByteArray} {mx : Nat} {rt : Option FieldType} {a : Array Value} {s : State} {m : MethodId} {meth : Method} {c : Code} (h1 : s.methodNamed? y = some m) (h2 : s.vm.method? m = some meth) (h3 : meth.code = some c) (h4 : c.code = bytes)
    (h5 : (c.maxLocals == mx && c.exceptionTable.isEmpty && decide (c.maxStack ≤ mostOperands) && decide (meth.sig.returnType = rt) && !meth.locks && decide (parseMethodDescriptor y.desc = some meth.sig)) = true) : (Jvm.Cond.code y bytes mx rt).before a s = true := by
  simp only [Bool.and_eq_true, beq_iff_eq, Bool.not_eq_true', decide_eq_true_eq] at h5
  obtain ⟨⟨⟨⟨⟨g1, g2⟩, g3⟩, g4⟩, g5⟩, g6⟩ := h5
  simp [Cond.before, Cond.holds, Cond.value, h1, h2, h3, h4, g1, g2, g3, g4, g5, g6]
def isCode : Jvm.Cond → Bool
  | .code _ _ _ _ => true
  | _ => false
theorem all_split {L : List Jvm.Cond} {P : Jvm.Cond → Bool} (h1 : L.all (fun c => isCode c || P c) = true) (h2 : ∀ c ∈ L.filter isCode, P c = true) : L.all P = true := by
  refine List.all_eq_true.mpr fun c hc => ?_
  have h := List.all_eq_true.mp h1 c hc
  rcases Bool.eq_false_or_eq_true (isCode c) with hi | hi
  · exact h2 c (List.mem_filter.mpr ⟨hc, hi⟩)
  · simpa [hi] using h
set_option maxRecDepth 65536 in
theorem w_c0 : (Jvm.Cond.code x code maxLocals ret).before args0 about1 = true := code_word (m := ⟨1, 2⟩) (meth := k1m2) (c := k1c2) (by decide +kernel) rfl rfl rfl (by decide +kernel)
set_option maxRecDepth 65536 in
theorem w_c1 : (Jvm.Cond.code ({ cls := "com/example/pesquisa/pesquisa/MeasureScorePinLaw", name := "gap", desc := "(I)I" } : Jvm.MethodName) method_2_code (1 : Nat) (Option.some Jvm.ClassFile.FieldType.int)).before args0 about1 = true := code_word (m := ⟨1, 1⟩) (meth := k1m1) (c := k1c1) (by decide +kernel) rfl rfl rfl (by decide +kernel)
set_option maxRecDepth 65536 in
theorem w_c2 : (Jvm.Cond.code ({ cls := "java/lang/Math", name := "max", desc := "(II)I" } : Jvm.MethodName) jdk_29_method_65_code (2 : Nat) (Option.some Jvm.ClassFile.FieldType.int)).before args0 about1 = true := code_word (m := ⟨2, 1⟩) (meth := k2m1) (c := k2c1) (by decide +kernel) rfl rfl rfl (by decide +kernel)
set_option maxRecDepth 65536 in
theorem w_c3 : (Jvm.Cond.code ({ cls := "com/example/pesquisa/pesquisa/Measure", name := "score", desc := "([II)D" } : Jvm.MethodName) prog_6_method_5_code (5 : Nat) (Option.some Jvm.ClassFile.FieldType.double)).before args0 about1 = true := code_word (m := ⟨7, 0⟩) (meth := k7m0) (c := k7c0) (by decide +kernel) rfl rfl rfl (by decide +kernel)
set_option maxRecDepth 65536 in
theorem w_c4 : (Jvm.Cond.code ({ cls := "java/lang/Enum", name := "ordinal", desc := "()I" } : Jvm.MethodName) jdk_37_method_2_code (1 : Nat) (Option.some Jvm.ClassFile.FieldType.int)).before args0 about1 = true := code_word (m := ⟨6, 0⟩) (meth := k6m0) (c := k6c0) (by decide +kernel) rfl rfl rfl (by decide +kernel)
set_option maxRecDepth 65536 in
theorem w_c5 : (Jvm.Cond.code ({ cls := "com/example/pesquisa/pesquisa/Measure", name := "averagePrecision", desc := "([II)D" } : Jvm.MethodName) prog_6_method_6_code (5 : Nat) (Option.some Jvm.ClassFile.FieldType.double)).before args0 about1 = true := code_word (m := ⟨7, 1⟩) (meth := k7m1) (c := k7c1) (by decide +kernel) rfl rfl rfl (by decide +kernel)
set_option maxRecDepth 65536 in
theorem w_c6 : (Jvm.Cond.code ({ cls := "com/example/pesquisa/pesquisa/Measure", name := "foundBy", desc := "([II)I" } : Jvm.MethodName) prog_6_method_7_code (3 : Nat) (Option.some Jvm.ClassFile.FieldType.int)).before args0 about1 = true := code_word (m := ⟨7, 2⟩) (meth := k7m2) (c := k7c2) (by decide +kernel) rfl rfl rfl (by decide +kernel)
def codes1 : List Jvm.Cond := [Jvm.Cond.code x code maxLocals ret, Jvm.Cond.code ({ cls := "com/example/pesquisa/pesquisa/MeasureScorePinLaw", name := "gap", desc := "(I)I" } : Jvm.MethodName) method_2_code (1 : Nat) (Option.some Jvm.ClassFile.FieldType.int), Jvm.Cond.code ({ cls := "java/lang/Math", name := "max", desc := "(II)I" } : Jvm.MethodName) jdk_29_method_65_code (2 : Nat) (Option.some Jvm.ClassFile.FieldType.int), Jvm.Cond.code ({ cls := "com/example/pesquisa/pesquisa/Measure", name := "score", desc := "([II)D" } : Jvm.MethodName) prog_6_method_5_code (5 : Nat) (Option.some Jvm.ClassFile.FieldType.double), Jvm.Cond.code ({ cls := "java/lang/Enum", name := "ordinal", desc := "()I" } : Jvm.MethodName) jdk_37_method_2_code (1 : Nat) (Option.some Jvm.ClassFile.FieldType.int), Jvm.Cond.code ({ cls := "com/example/pesquisa/pesquisa/Measure", name := "averagePrecision", desc := "([II)D" } : Jvm.MethodName) prog_6_method_6_code (5 : Nat) (Option.some Jvm.ClassFile.FieldType.double), Jvm.Cond.code ({ cls := "com/example/pesquisa/pesquisa/Measure", name := "foundBy", desc := "([II)I" } : Jvm.MethodName) prog_6_method_7_code (3 : Nat) (Option.some Jvm.ClassFile.FieldType.int)]
set_option maxRecDepth 65536 in
theorem codes_eq : words1.filter isCode = codes1 := rfl
theorem w_codes : ∀ c ∈ words1.filter isCode, c.before args0 about1 = true := by
  rw [codes_eq]
  intro c hc
  simp only [codes1, List.mem_cons, List.not_mem_nil, or_false] at hc
  rcases hc with rfl | rfl | rfl | rfl | rfl | rfl | rfl
  · exact w_c0
  · exact w_c1
  · exact w_c2
  · exact w_c3
  · exact w_c4
  · exact w_c5
  · exact w_c6
set_option maxRecDepth 65536 in
theorem w_t1 : (words1.take 24).all (fun c => isCode c || c.before args0 about1) = true := by decide +kernel
set_option maxRecDepth 65536 in
theorem w_t2 : (words1.drop 24).all (fun c => isCode c || c.before args0 about1) = true := by decide +kernel
theorem w_tables : (allAtoms (Jvm.Cond.code x code maxLocals ret :: tables_1)).before args0 about1 = true := by
  rw [allAtoms_all]
  show words1.all (fun c => c.before args0 about1) = true
  refine all_split ?_ w_codes
  rw [← List.take_append_drop 24 words1, List.all_append, w_t1, w_t2]
  rfl
set_option maxRecDepth 65536 in
theorem w_case : (Jvm.Cond.and given_1 narrow_1).before args0 about1 = true := by decide +kernel
theorem w_applies : (headSpec (Jvm.Cond.code x code maxLocals ret :: tables_1) room_1).applies x e0.platform about1 = true :=
  (Spec.applies_iff w_frames).mpr ⟨w_running, w_runnable, w_alone, w_named, w_hears, w_ripe, w_room, w_tables⟩
theorem atStart : AtStart classFile x code maxLocals ret World_1 tables_1 room_1 Calls_1 rest_1 Pre_1 launch0 p0 e0 about1 theMethod args0 below0 :=
  ⟨lists_1, trivial, launch0.admits_env _ _ _, launch0.least_env, fairChoices_fair.cas, fairChoices_fair.clock, w_frames, w_args, w_heap, w_applies, trivial, trivial, w_case⟩
end start1
theorem witness_1 : WitnessClaimed_1 := ⟨start1.p0, start1.e0, start1.about1, start1.theMethod, start1.args0, start1.below0, start1.atStart⟩
end Jvm.Pilot.@@N@@
