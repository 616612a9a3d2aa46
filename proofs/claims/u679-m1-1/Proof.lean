import JvmDerived
import JvmDerived.Pilot.@@N@@Statement
import JvmDerived.Pilot.@@N@@Code
set_option linter.unusedVariables false
set_option linter.unusedSimpArgs false
namespace Jvm.RoadKit
open Sem ClassFile Op Lib Jvm.Stand Jvm.Free Jvm.LawKit
section New
variable {p : Program} {l : Launch} {e : Env} {R : Room} {s : State} {m : MethodId} {args : Array Value} {below : List Frame} {meth : Method} {c : Code} {T : State} {locs : List Loc} {cells slots : Nat}
theorem retI (X : Stand p l e R s m args below meth c T locs cells slots) (hx : p.tables.exec = Jvm.exec) {pc : Nat} {Ls : Array Slot} {z : Int32} {rest : List Value} (hret : meth.sig.returnType = some .int) (hd : decode c.code pc = .ok (.ireturn, 1)) {fs : List Frame}
    (hl : ∀ (f : JFrame) (acts : List Action), f.method = m → f.locked = none → f.entered = [] → (doReturn e (T.setTop f) acts (some (.int z))).1 = T.setFrames fs) : Steps p.tables e below (T.setTop (mkF m pc Ls (.int z :: rest))) (T.setFrames fs) := by
  have hm' : T.vm.method? m = some meth := X.method'
  have hn : narrow .int (.int z) = .int z := rfl
  show Steps p.tables e below (T.setTop { method := m, pc := pc, locals := Ls, stack := _ :: rest, locked := none }) _
  jvm_step X.here [X.here.top, hx, hd, hm', hret, hn]
  first | (intro acts; rw [hl _ acts rfl rfl rfl]) | rw [hl _ _ rfl rfl rfl]
  exact Steps.refl _
end New
end Jvm.RoadKit
namespace Jvm.Pilot.@@N@@
section OwnFl
open Jvm.FP.Core
/-- a double's value in units of 2^-1074 -/
def own_z (a : UInt64) : Int := zval b64 (val64 a)
theorem own_signed (N : Int) : signed (decide (N < 0)) N.natAbs = N := by
  unfold signed
  by_cases h : N < 0
  · simp only [h, decide_true, if_true]; omega
  · simp only [h, decide_false, Bool.false_eq_true, if_false]; omega
theorem own_qmax : b64.qmax = 971 := by decide
theorem own_p : b64.p = 53 := rfl
theorem own_rep {N : Int} {j : Nat} (hN : N.natAbs < 2 ^ 53) (hj : j ≤ 2045) :
    ∃ V : Datum, Jvm.FP.Core.fits b64 V ∧ V ≠ .nan ∧ (∀ s, V ≠ .inf s) ∧ zval b64 V = N * ((2 ^ j : Nat) : Int) := by
  obtain ⟨c', q', h1, h2⟩ := round_exact good_b64 (decide (N < 0)) (c := N.natAbs) (q := (j : Int) - 1074) hN (by rw [qmin_b64]; omega) (by rw [own_qmax]; omega)
  refine ⟨.fin (decide (N < 0)) c' q', h1 ▸ round_fits good_b64 _, by simp, by simp, ?_⟩
  show signed (decide (N < 0)) (inUnits c' q' b64.qmin) = _
  rw [h2]
  unfold inUnits
  rw [qmin_b64, signed_mul, own_signed, show ((j : Int) - 1074 - -1074).toNat = j by omega]
theorem own_top {V : Datum} (h1 : Jvm.FP.Core.fits b64 V) (h2 : V ≠ .nan) (h3 : ∀ s, V ≠ .inf s) : zmag b64 V < b64.tails * 2 ^ (b64.exps - 2) := by
  cases V with
  | nan => exact absurd rfl h2
  | inf s => exact absurd rfl (h3 s)
  | fin s c q => exact zmag_lt_top good_b64 h1
theorem own_zabs (d : Datum) : (zval b64 d).natAbs = zmag b64 d := natAbs_signed _ _
theorem own_fin {a : UInt64} (hn : val64 a ≠ .nan) {N : Int} {j : Nat} (hN : N.natAbs < 2 ^ 53) (hj : j ≤ 2045)
    (h1 : -(N * ((2 ^ j : Nat) : Int)) ≤ own_z a) (h2 : own_z a ≤ N * ((2 ^ j : Nat) : Int)) : DFin a := by
  obtain ⟨V, f1, f2, f3, f4⟩ := own_rep hN hj
  have t := own_top f1 f2 f3
  rw [← f4] at h1 h2
  have e1 := own_zabs V
  have e2 := own_zabs (val64 a)
  have e3 : own_z a = zval b64 (val64 a) := rfl
  cases hd : val64 a with
  | nan => exact absurd hd hn
  | inf s =>
    rw [hd] at e2 e3
    have e4 : zmag b64 (.inf s) = b64.tails * 2 ^ (b64.exps - 2) := rfl
    rw [e4] at e2
    generalize b64.tails * 2 ^ (b64.exps - 2) = X at *
    omega
  | fin s c q => exact ⟨s, c, q, hd⟩
theorem own_nn {a : UInt64} (h : DFin a) : Jvm.Free.Fl.NoNaN64 a := (Jvm.Free.Fl.fin64_core.mpr h).noNaN
theorem own_z_neg (a : UInt64) : own_z (Jvm.FP.dneg a) = -own_z a := by
  unfold own_z
  rw [Jvm.FP.val64_dneg, zval_negate]
theorem own_fin_neg {a : UInt64} (h : DFin a) : DFin (Jvm.FP.dneg a) := by
  obtain ⟨s, c, q, h⟩ := h
  exact ⟨!s, c, q, by rw [Jvm.FP.val64_dneg, h]; rfl⟩
-- sums
theorem own_add_nn {a b : UInt64} (ha : DFin a) (hb : DFin b) : val64 (Jvm.FP.dadd a b) ≠ .nan := (notNaN_iff _).mp (dadd_out ha.notNaN hb)
theorem own_add_le {a b : UInt64} (ha : DFin a) (hb : DFin b) {N : Int} {j : Nat} (hN : N.natAbs < 2 ^ 53) (hj : j ≤ 2045)
    (h : own_z a + own_z b ≤ N * ((2 ^ j : Nat) : Int)) : own_z (Jvm.FP.dadd a b) ≤ N * ((2 ^ j : Nat) : Int) := by
  obtain ⟨V, f1, f2, -, f4⟩ := own_rep hN hj
  have q := sum_le good_b64 ha hb (val64_fits a) (val64_fits b) f1 f2 (by rw [f4]; exact h)
  rw [f4, ← val64_dadd] at q
  exact q
theorem own_add_ge {a b : UInt64} (ha : DFin a) (hb : DFin b) {N : Int} {j : Nat} (hN : N.natAbs < 2 ^ 53) (hj : j ≤ 2045)
    (h : N * ((2 ^ j : Nat) : Int) ≤ own_z a + own_z b) : N * ((2 ^ j : Nat) : Int) ≤ own_z (Jvm.FP.dadd a b) := by
  obtain ⟨V, f1, f2, -, f4⟩ := own_rep hN hj
  have q := sum_ge good_b64 ha hb (val64_fits a) (val64_fits b) f1 f2 (by rw [f4]; exact h)
  rw [f4, ← val64_dadd] at q
  exact q
theorem own_fin_abs {a : UInt64} (hn : val64 a ≠ .nan) {N : Int} {j : Nat} (hN : N.natAbs < 2 ^ 53) (hj : j ≤ 2045) (h : own_z a = N * ((2 ^ j : Nat) : Int)) : DFin a := by
  have p : (0 : Int) ≤ ((2 ^ j : Nat) : Int) := Int.natCast_nonneg _
  by_cases s : 0 ≤ N
  · have := Int.mul_nonneg s p
    exact own_fin hn hN hj (by omega) (by omega)
  · have q := Int.mul_nonneg (show (0 : Int) ≤ -N by omega) p
    rw [Int.neg_mul] at q
    refine own_fin hn (N := -N) (j := j) (by omega) hj ?_ ?_ <;> rw [Int.neg_mul] <;> omega
theorem own_add {a b : UInt64} (ha : DFin a) (hb : DFin b) {N : Int} {j : Nat} (hN : N.natAbs < 2 ^ 53) (hj : j ≤ 2045)
    (h : own_z a + own_z b = N * ((2 ^ j : Nat) : Int)) : DFin (Jvm.FP.dadd a b) ∧ own_z (Jvm.FP.dadd a b) = N * ((2 ^ j : Nat) : Int) := by
  have q : own_z (Jvm.FP.dadd a b) = N * ((2 ^ j : Nat) : Int) := by
    have h1 := own_add_le ha hb hN hj (Int.le_of_eq h)
    have h2 := own_add_ge ha hb hN hj (Int.le_of_eq h.symm)
    omega
  exact ⟨own_fin_abs (own_add_nn ha hb) hN hj q, q⟩
theorem own_sub_eq {a b : UInt64} (hb : DFin b) : Jvm.FP.dsub a b = Jvm.FP.dadd a (Jvm.FP.dneg b) := by
  rw [Jvm.FP.dneg_core hb.notNaN]; exact dsub_eq a b
theorem own_sum_val {a b : UInt64} (ha : DFin a) (hb : DFin b) (hz : own_z a + own_z b ≠ 0) :
    val64 (Jvm.FP.dadd a b) = roundRatio b64 (decide (own_z a + own_z b < 0)) (own_z a + own_z b).natAbs 1 (-1074) := by
  have fa := val64_fits a
  have fb := val64_fits b
  have za : own_z a = zval b64 (val64 a) := rfl
  have zb : own_z b = zval b64 (val64 b) := rfl
  obtain ⟨s, c, q, ea⟩ := ha
  obtain ⟨t, d, r, eb⟩ := hb
  rw [show val64 (Jvm.FP.dadd a b) = _ from val64_dadd a b, ea, eb]
  rw [ea] at fa za
  rw [eb] at fb zb
  obtain ⟨sg, n, e, h1, h2, h3⟩ := sum_units fa fb
  rw [← za, ← zb] at h3
  rw [h1]
  show roundRatio b64 sg n 1 e = _
  rw [qmin_b64] at h2
  have hn : inUnits n e b64.qmin = (own_z a + own_z b).natAbs := by rw [← h3, natAbs_signed]
  have hs : sg = decide (own_z a + own_z b < 0) := by
    have hp : 0 < inUnits n e b64.qmin := by omega
    rw [← h3]; exact (signed_lt_zero sg hp).symm
  rw [← hs]
  refine roundRatio_congr (by decide) (by decide) ?_
  rw [← hn]
  unfold inUnits
  rw [qmin_b64, show (-1074 - e).toNat = 0 by omega, Nat.pow_zero, Nat.mul_one, Nat.mul_one, Nat.mul_one]
theorem own_sum_same {a b a' b' : UInt64} (ha : DFin a) (hb : DFin b) (ha' : DFin a') (hb' : DFin b') (h : own_z a + own_z b = own_z a' + own_z b') (hz : own_z a + own_z b ≠ 0) : Jvm.FP.dadd a b = Jvm.FP.dadd a' b' := by
  refine val64_inj (own_add_nn ha hb) ?_
  rw [own_sum_val ha hb hz, own_sum_val ha' hb' (by rw [← h]; exact hz), h]
theorem own_sub_same {a b a' : UInt64} (ha : DFin a) (hb : DFin b) (ha' : DFin a') (h : own_z a = own_z a') (hz : own_z a ≠ own_z b) : Jvm.FP.dsub a b = Jvm.FP.dsub a' b := by
  rw [own_sub_eq hb, own_sub_eq hb]
  exact own_sum_same ha (own_fin_neg hb) ha' (own_fin_neg hb) (by rw [h]) (by rw [own_z_neg]; omega)
-- products
theorem own_mul_nn {a b : UInt64} (ha : DFin a) (hb : DFin b) : val64 (Jvm.FP.dmul a b) ≠ .nan := (notNaN_iff _).mp (dmul_out ha hb)
theorem own_mul {a b : UInt64} (ha : DFin a) (hb : DFin b) {N : Int} {j : Nat} (hN : N.natAbs < 2 ^ 53) (hj : j ≤ 2045)
    (h : own_z a * own_z b = N * ((2 ^ j : Nat) : Int) * ((2 ^ 1074 : Nat) : Int)) : DFin (Jvm.FP.dmul a b) ∧ own_z (Jvm.FP.dmul a b) = N * ((2 ^ j : Nat) : Int) := by
  have q : own_z (Jvm.FP.dmul a b) = N * ((2 ^ j : Nat) : Int) := by
    obtain ⟨V, f1, f2, -, f4⟩ := own_rep hN hj
    have fa := val64_fits a
    have fb := val64_fits b
    obtain ⟨s, c, q, ea⟩ := ha
    obtain ⟨t, d, r, eb⟩ := hb
    unfold own_z at h ⊢
    rw [ea] at fa
    rw [eb] at fb
    rw [val64_dmul, ea, eb]
    rw [ea, eb] at h
    obtain ⟨u1, u2, u3⟩ := product_units fa fb
    rw [u1]
    have e : signed (s != t) (inUnits (c * d) (q + r) (2 * b64.qmin)) = zval b64 (.fin s c q) * zval b64 (.fin t d r) := by
      rw [u3]; exact signed_xor s t _ _
    have k : (b64.qmin - 2 * b64.qmin).toNat = 1074 := by rw [qmin_b64]; decide
    have w1 := zval_round_le good_b64 f1 f2 (e0 := 2 * b64.qmin) (by rw [qmin_b64]; decide) u2 (by rw [e, h, f4, k]; exact Int.le_refl _)
    have w2 := zval_round_ge good_b64 f1 f2 (e0 := 2 * b64.qmin) (by rw [qmin_b64]; decide) u2 (by rw [e, h, f4, k]; exact Int.le_refl _)
    rw [f4] at w1 w2
    exact Int.le_antisymm w1 w2
  exact ⟨own_fin_abs (own_mul_nn ha hb) hN hj q, q⟩
-- quotients by a positive number
theorem own_div_val {a b : UInt64} (ha : DFin a) (hb : DFin b) (hz : own_z b ≠ 0) :
    val64 (Jvm.FP.ddiv a b) = roundRatio b64 (sgn (val64 a) != sgn (val64 b)) (own_z a).natAbs (own_z b).natAbs 0 := by
  have fa := val64_fits a
  have fb := val64_fits b
  have ea' : (own_z a).natAbs = zmag b64 (val64 a) := own_zabs _
  have eb' : (own_z b).natAbs = zmag b64 (val64 b) := own_zabs _
  have hz' : zmag b64 (val64 b) ≠ 0 := by omega
  rw [ea', eb', show val64 (Jvm.FP.ddiv a b) = _ from val64_ddiv a b]
  obtain ⟨s, c, q, ea⟩ := ha
  obtain ⟨t, d, r, eb⟩ := hb
  rw [ea] at fa ⊢
  rw [eb] at fb hz' ⊢
  have q1 := fa.2.1
  have r1 := fb.2.1
  have hz2 : inUnits d r b64.qmin ≠ 0 := hz'
  unfold inUnits at hz2
  have hd : d ≠ 0 := fun z => hz2 (by rw [z, Nat.zero_mul])
  show (if d = 0 then _ else roundRatio b64 (s != t) c d (q - r)) = roundRatio b64 (s != t) (inUnits c q b64.qmin) (inUnits d r b64.qmin) 0
  rw [if_neg hd]
  refine roundRatio_congr (Nat.pos_of_ne_zero hd) (Nat.pos_of_ne_zero hz') ?_
  unfold inUnits
  rw [qmin_b64] at *
  have e1 : (q - r - 0).toNat + (r - -1074).toNat = (q - -1074).toNat + (0 - (q - r)).toNat := by omega
  calc c * (d * 2 ^ (r - -1074).toNat) * 2 ^ (q - r - 0).toNat = c * d * 2 ^ ((q - r - 0).toNat + (r - -1074).toNat) := by rw [Nat.pow_add]; ac_rfl
    _ = c * d * 2 ^ ((q - -1074).toNat + (0 - (q - r)).toNat) := by rw [e1]
    _ = c * 2 ^ (q - -1074).toNat * d * 2 ^ (0 - (q - r)).toNat := by rw [Nat.pow_add]; ac_rfl
theorem own_sgn_pos {a : UInt64} (h : 0 < own_z a) : sgn (val64 a) = false := by
  cases e : sgn (val64 a) with
  | false => rfl
  | true =>
    have : own_z a = -((zmag b64 (val64 a) : Nat) : Int) := by unfold own_z zval; rw [e]; rfl
    omega
theorem own_sgn_neg {a : UInt64} (h : own_z a < 0) : sgn (val64 a) = true := by
  cases e : sgn (val64 a) with
  | true => rfl
  | false =>
    have : own_z a = ((zmag b64 (val64 a) : Nat) : Int) := by unfold own_z zval; rw [e]; rfl
    omega
theorem own_div_z {a b : UInt64} (ha : DFin a) (hb : DFin b) (hz : 0 < own_z b) :
    own_z (Jvm.FP.ddiv a b) = signed (sgn (val64 a)) (zmag b64 (roundRatio b64 (sgn (val64 a)) (own_z a).natAbs (own_z b).natAbs 0)) := by
  unfold own_z zval
  have q := own_div_val ha hb (by omega)
  rw [own_sgn_pos hz, Bool.bne_false] at q
  unfold own_z at q
  rw [q, sgn_roundRatio]
  rfl
theorem own_div_nn {a b : UInt64} (ha : DFin a) (hb : DFin b) (hz : own_z b ≠ 0) : val64 (Jvm.FP.ddiv a b) ≠ .nan := by
  rw [own_div_val ha hb hz]; exact roundRatio_ne_nan _ _ _ _ _
theorem own_rr_le {s : Bool} {A B : Nat} (hB : 0 < B) {N : Int} {j : Nat} (hN : N.natAbs < 2 ^ 53) (hj : j ≤ 2045) (h : A * 2 ^ 1074 ≤ N.natAbs * 2 ^ j * B) :
    zmag b64 (roundRatio b64 s A B 0) ≤ N.natAbs * 2 ^ j := by
  obtain ⟨V, f1, f2, -, f4⟩ := own_rep hN hj
  have e : zmag b64 V = N.natAbs * 2 ^ j := by rw [← own_zabs, f4, Int.natAbs_mul, Int.natAbs_natCast]
  have q := zmag_roundRatio_le good_b64 (s := s) (A := A) (B := B) (e := 0) (e0 := b64.qmin) hB f1 f2 (Int.le_refl _) (by rw [qmin_b64]; decide)
    (by unfold inUnits; rw [e, Int.sub_self, qmin_b64, show ((0 : Int) - -1074).toNat = 1074 from rfl, show (0 : Int).toNat = 0 from rfl, Nat.pow_zero, Nat.mul_one]; exact h)
  rw [e] at q; exact q
theorem own_rr_ge {s : Bool} {A B : Nat} (hB : 0 < B) {N : Int} {j : Nat} (hN : N.natAbs < 2 ^ 53) (hj : j ≤ 2045) (h : N.natAbs * 2 ^ j * B ≤ A * 2 ^ 1074) :
    N.natAbs * 2 ^ j ≤ zmag b64 (roundRatio b64 s A B 0) := by
  obtain ⟨V, f1, f2, -, f4⟩ := own_rep hN hj
  have e : zmag b64 V = N.natAbs * 2 ^ j := by rw [← own_zabs, f4, Int.natAbs_mul, Int.natAbs_natCast]
  have q := zmag_roundRatio_ge good_b64 (s := s) (A := A) (B := B) (e := 0) (e0 := b64.qmin) hB f1 (Int.le_refl _) (by rw [qmin_b64]; decide)
    (by unfold inUnits; rw [e, Int.sub_self, qmin_b64, show ((0 : Int) - -1074).toNat = 1074 from rfl, show (0 : Int).toNat = 0 from rfl, Nat.pow_zero, Nat.mul_one]; exact h)
  rw [e] at q; exact q
theorem own_cast_le {A B N : Nat} {j k : Nat} (h : (A : Int) * ((2 ^ k : Nat) : Int) ≤ (N : Int) * ((2 ^ j : Nat) : Int) * (B : Int)) : A * 2 ^ k ≤ N * 2 ^ j * B := by
  rw [← Int.natCast_mul, ← Int.natCast_mul, ← Int.natCast_mul] at h
  exact Int.ofNat_le.mp h
theorem own_cast_ge {A B N : Nat} {j k : Nat} (h : (N : Int) * ((2 ^ j : Nat) : Int) * (B : Int) ≤ (A : Int) * ((2 ^ k : Nat) : Int)) : N * 2 ^ j * B ≤ A * 2 ^ k := by
  rw [← Int.natCast_mul, ← Int.natCast_mul, ← Int.natCast_mul] at h
  exact Int.ofNat_le.mp h
theorem own_div_le {a b : UInt64} (ha : DFin a) (hb : DFin b) (hz : 0 < own_z b) {N : Int} {j : Nat} (hN : N.natAbs < 2 ^ 53) (hj : j ≤ 2045)
    (h : own_z a * ((2 ^ 1074 : Nat) : Int) ≤ N * ((2 ^ j : Nat) : Int) * own_z b) : own_z (Jvm.FP.ddiv a b) ≤ N * ((2 ^ j : Nat) : Int) := by
  rw [own_div_z ha hb hz]
  have p : (0 : Int) < ((2 ^ j : Nat) : Int) := by exact_mod_cast Nat.two_pow_pos j
  have p2 : (0 : Int) < ((2 ^ 1074 : Nat) : Int) := by exact_mod_cast Nat.two_pow_pos 1074
  have hB : 0 < (own_z b).natAbs := by omega
  have eb : ((own_z b).natAbs : Int) = own_z b := by omega
  by_cases s : 0 ≤ N
  · have q := Int.mul_nonneg s (Int.le_of_lt p)
    have eN : (N.natAbs : Int) = N := by omega
    cases e : sgn (val64 a) with
    | true =>
      show -((_ : Nat) : Int) ≤ _
      omega
    | false =>
      have ez : own_z a = ((own_z a).natAbs : Int) := by
        have : own_z a = ((zmag b64 (val64 a) : Nat) : Int) := by unfold own_z zval; rw [e]; rfl
        omega
      have r := own_rr_le (s := false) (A := (own_z a).natAbs) hB hN hj (own_cast_le (by rw [eb, eN, ← ez]; exact h))
      show ((_ : Nat) : Int) ≤ _
      have r2 := Int.ofNat_le.mpr r
      rw [Int.natCast_mul, eN] at r2
      exact r2
  · have nb : own_z a < 0 := by
      refine Int.lt_of_not_ge fun g => ?_
      have g1 := Int.mul_nonneg g (Int.le_of_lt p2)
      have g2 := Int.mul_pos (Int.mul_pos (show (0 : Int) < -N by omega) p) hz
      rw [Int.neg_mul, Int.neg_mul] at g2
      omega
    rw [own_sgn_neg nb]
    show -((_ : Nat) : Int) ≤ _
    have eN : (N.natAbs : Int) = -N := by omega
    have ez : ((own_z a).natAbs : Int) = -own_z a := by omega
    have r := own_rr_ge (s := true) (A := (own_z a).natAbs) hB hN hj (own_cast_ge (by rw [eb, eN, ez, Int.neg_mul, Int.neg_mul, Int.neg_mul]; omega))
    have r2 := Int.ofNat_le.mpr r
    rw [Int.natCast_mul, eN, Int.neg_mul] at r2
    omega
theorem own_div_ge {a b : UInt64} (ha : DFin a) (hb : DFin b) (hz : 0 < own_z b) {N : Int} {j : Nat} (hN : N.natAbs < 2 ^ 53) (hj : j ≤ 2045)
    (h : N * ((2 ^ j : Nat) : Int) * own_z b ≤ own_z a * ((2 ^ 1074 : Nat) : Int)) : N * ((2 ^ j : Nat) : Int) ≤ own_z (Jvm.FP.ddiv a b) := by
  have q := own_div_le (own_fin_neg ha) hb hz (N := -N) (j := j) (by omega) hj (by rw [own_z_neg, Int.neg_mul, Int.neg_mul, Int.neg_mul]; omega)
  have e : own_z (Jvm.FP.ddiv (Jvm.FP.dneg a) b) = -own_z (Jvm.FP.ddiv a b) := by
    unfold own_z
    rw [show val64 (Jvm.FP.ddiv (Jvm.FP.dneg a) b) = _ from val64_ddiv _ b, Jvm.FP.val64_dneg, quotient_negate, zval_negate, show val64 (Jvm.FP.ddiv a b) = _ from val64_ddiv a b]
  rw [e, Int.neg_mul] at q
  omega
theorem own_div {a b : UInt64} (ha : DFin a) (hb : DFin b) (hz : 0 < own_z b) {N : Int} {j : Nat} (hN : N.natAbs < 2 ^ 53) (hj : j ≤ 2045)
    (h : own_z a * ((2 ^ 1074 : Nat) : Int) = N * ((2 ^ j : Nat) : Int) * own_z b) : DFin (Jvm.FP.ddiv a b) ∧ own_z (Jvm.FP.ddiv a b) = N * ((2 ^ j : Nat) : Int) := by
  have q : own_z (Jvm.FP.ddiv a b) = N * ((2 ^ j : Nat) : Int) :=
    Int.le_antisymm (own_div_le ha hb hz hN hj (Int.le_of_eq h)) (own_div_ge ha hb hz hN hj (Int.le_of_eq h.symm))
  exact ⟨own_fin_abs (own_div_nn ha hb (by omega)) hN hj q, q⟩
theorem own_div_same {a b a' b' : UInt64} (ha : DFin a) (hb : DFin b) (ha' : DFin a') (hb' : DFin b') (pa : 0 < own_z a) (pb : 0 < own_z b) (pa' : 0 < own_z a') (pb' : 0 < own_z b')
    (h : own_z a * own_z b' = own_z a' * own_z b) : Jvm.FP.ddiv a b = Jvm.FP.ddiv a' b' := by
  refine val64_inj (own_div_nn ha hb (by omega)) ?_
  rw [own_div_val ha hb (by omega), own_div_val ha' hb' (by omega), own_sgn_pos pa, own_sgn_pos pb, own_sgn_pos pa', own_sgn_pos pb']
  refine roundRatio_congr (by omega) (by omega) ?_
  rw [show ((0 : Int) - 0).toNat = 0 from rfl, Nat.pow_zero, Nat.mul_one, Nat.mul_one, ← Int.natAbs_mul, ← Int.natAbs_mul, h]
-- comparison
theorem own_cmp {a b : UInt64} (ha : val64 a ≠ .nan) (hb : val64 b ≠ .nan) : Jvm.FP.dcmp a b = some (compare (own_z a) (own_z b)) := dcmp_zval ha hb
theorem own_cmp_int {a b : UInt64} (ha : val64 a ≠ .nan) (hb : val64 b ≠ .nan) (o : Jvm.ClassFile.CmpOp) :
    Jvm.Op.cmpValue (Jvm.FP.dcmp a b) o = if own_z a < own_z b then -1 else if own_z a = own_z b then 0 else 1 := by
  rw [own_cmp ha hb, compare_ite]
  by_cases h : own_z a < own_z b
  · rw [if_pos h, if_pos h]; cases o <;> rfl
  · rw [if_neg h, if_neg h]
    by_cases h2 : own_z a = own_z b
    · rw [if_pos h2, if_pos h2]; cases o <;> rfl
    · rw [if_neg h2, if_neg h2]; cases o <;> rfl
-- whole numbers
theorem own_z_l2d {i : Int64} (h : i.toInt.natAbs ≤ 2 ^ 53) : own_z (Jvm.FP.l2d i) = i.toInt * ((2 ^ 1074 : Nat) : Int) := DInt_zval (l2d_int h)
theorem own_z_i2d (i : Int32) : own_z (Jvm.FP.i2d i) = i.toInt * ((2 ^ 1074 : Nat) : Int) := DInt_zval (i2d_int i)
theorem own_fin_l2d (i : Int64) : DFin (Jvm.FP.l2d i) := l2d_fin i
theorem own_fin_i2d (i : Int32) : DFin (Jvm.FP.i2d i) := i2d_fin i
-- n / 2^k
def Dy (n : Int) (k : Nat) (a : UInt64) : Prop := DFin a ∧ own_z a = n * ((2 ^ (1074 - k) : Nat) : Int)
theorem Dy.fin {n : Int} {k : Nat} {a : UInt64} (h : Dy n k a) : DFin a := h.1
theorem Dy.nn {n : Int} {k : Nat} {a : UInt64} (h : Dy n k a) : Jvm.Free.Fl.NoNaN64 a := own_nn h.1
theorem Dy.i2d (i : Int32) : Dy i.toInt 0 (Jvm.FP.i2d i) := ⟨own_fin_i2d i, own_z_i2d i⟩
theorem Dy.l2d {i : Int64} (h : i.toInt.natAbs ≤ 2 ^ 53) : Dy i.toInt 0 (Jvm.FP.l2d i) := ⟨own_fin_l2d i, own_z_l2d h⟩
theorem Dy.add {n m : Int} {k : Nat} {a b : UInt64} (ha : Dy n k a) (hb : Dy m k b) (h : (n + m).natAbs < 2 ^ 53) : Dy (n + m) k (Jvm.FP.dadd a b) :=
  own_add ha.1 hb.1 h (by omega) (by rw [ha.2, hb.2, Int.add_mul])
theorem Dy.neg {n : Int} {k : Nat} {a : UInt64} (ha : Dy n k a) : Dy (-n) k (Jvm.FP.dneg a) := ⟨own_fin_neg ha.1, by rw [own_z_neg, ha.2, Int.neg_mul]⟩
theorem Dy.sub {n m : Int} {k : Nat} {a b : UInt64} (ha : Dy n k a) (hb : Dy m k b) (h : (n - m).natAbs < 2 ^ 53) : Dy (n - m) k (Jvm.FP.dsub a b) := by
  rw [own_sub_eq hb.1]; exact Dy.add ha hb.neg (by rw [← Int.sub_eq_add_neg]; exact h)
theorem own_pow {k : Nat} (h : k ≤ 1074) : ((2 ^ (1074 - k) : Nat) : Int) * ((2 ^ k : Nat) : Int) = ((2 ^ 1074 : Nat) : Int) := by
  rw [← Int.natCast_mul, ← Nat.pow_add, Nat.sub_add_cancel h]
theorem own_pow_pos (k : Nat) : (0 : Int) < ((2 ^ k : Nat) : Int) := by exact_mod_cast Nat.two_pow_pos k
theorem Dy.conv {n m : Int} {k l : Nat} {a : UInt64} (ha : Dy n k a) (hk : k ≤ 1074) (hl : l ≤ 1074) (h : n * ((2 ^ l : Nat) : Int) = m * ((2 ^ k : Nat) : Int)) : Dy m l a := by
  refine ⟨ha.1, ?_⟩
  have e1 := own_pow hk
  have e2 := own_pow hl
  have p1 := own_pow_pos k
  have p2 := own_pow_pos l
  rw [ha.2]
  generalize ((2 ^ (1074 - k) : Nat) : Int) = A at *
  generalize ((2 ^ (1074 - l) : Nat) : Int) = B at *
  generalize ((2 ^ k : Nat) : Int) = K at *
  generalize ((2 ^ l : Nat) : Int) = L at *
  refine Int.eq_of_mul_eq_mul_right (Int.ne_of_gt (Int.mul_pos p1 p2)) ?_
  calc n * A * (K * L) = n * L * (A * K) := by ac_rfl
    _ = m * K * (B * L) := by rw [h, e1, e2]
    _ = m * B * (K * L) := by ac_rfl
theorem Dy.mul {n m : Int} {k l : Nat} {a b : UInt64} (ha : Dy n k a) (hb : Dy m l b) (hk : k + l ≤ 1074) (h : (n * m).natAbs < 2 ^ 53) : Dy (n * m) (k + l) (Jvm.FP.dmul a b) := by
  refine own_mul ha.1 hb.1 h (by omega) ?_
  rw [ha.2, hb.2]
  have e1 : ((2 ^ (1074 - k) : Nat) : Int) * ((2 ^ (1074 - l) : Nat) : Int) = ((2 ^ (1074 - (k + l)) : Nat) : Int) * ((2 ^ 1074 : Nat) : Int) := by
    rw [← Int.natCast_mul, ← Int.natCast_mul, ← Nat.pow_add, ← Nat.pow_add]
    congr 2; omega
  generalize ((2 ^ (1074 - k) : Nat) : Int) = A at *
  generalize ((2 ^ (1074 - l) : Nat) : Int) = B at *
  generalize ((2 ^ (1074 - (k + l)) : Nat) : Int) = C at *
  generalize ((2 ^ 1074 : Nat) : Int) = O at *
  calc n * A * (m * B) = n * m * (A * B) := by ac_rfl
    _ = n * m * C * O := by rw [e1]; ac_rfl
theorem Dy.mulx {n m N : Int} {k l r : Nat} {a b : UInt64} (ha : Dy n k a) (hb : Dy m l b) (hk : k ≤ 1074) (hl : l ≤ 1074) (hr : r ≤ 1074)
    (h : n * m * ((2 ^ r : Nat) : Int) = N * ((2 ^ k : Nat) : Int) * ((2 ^ l : Nat) : Int)) (hN : N.natAbs < 2 ^ 53) : Dy N r (Jvm.FP.dmul a b) := by
  refine own_mul ha.1 hb.1 hN (by omega) ?_
  rw [ha.2, hb.2]
  have e1 := own_pow hk
  have e2 := own_pow hl
  have e3 := own_pow hr
  have p1 := own_pow_pos k
  have p2 := own_pow_pos l
  have p3 := own_pow_pos r
  generalize ((2 ^ 1074 : Nat) : Int) = O at *
  generalize ((2 ^ (1074 - k) : Nat) : Int) = A at *
  generalize ((2 ^ (1074 - l) : Nat) : Int) = B at *
  generalize ((2 ^ (1074 - r) : Nat) : Int) = C at *
  generalize ((2 ^ k : Nat) : Int) = K at *
  generalize ((2 ^ l : Nat) : Int) = L at *
  generalize ((2 ^ r : Nat) : Int) = R at *
  refine Int.eq_of_mul_eq_mul_right (Int.ne_of_gt (Int.mul_pos p1 (Int.mul_pos p2 p3))) ?_
  calc n * A * (m * B) * (K * (L * R)) = n * m * R * ((A * K) * (B * L)) := by ac_rfl
    _ = N * K * L * (O * (C * R)) := by rw [h, e1, e2, e3]
    _ = N * C * O * (K * (L * R)) := by ac_rfl
theorem Dy.pos {n : Int} {k : Nat} {a : UInt64} (ha : Dy n k a) (h : 0 < n) : 0 < own_z a := by rw [ha.2]; exact Int.mul_pos h (own_pow_pos _)
theorem Dy.div {n m N : Int} {k l r : Nat} {a b : UInt64} (ha : Dy n k a) (hb : Dy m l b) (hm : 0 < m) (hk : k ≤ 1074) (hl : l ≤ 1074) (hr : r ≤ 1074)
    (h : n * ((2 ^ l : Nat) : Int) * ((2 ^ r : Nat) : Int) = N * m * ((2 ^ k : Nat) : Int)) (hN : N.natAbs < 2 ^ 53) : Dy N r (Jvm.FP.ddiv a b) := by
  refine own_div ha.1 hb.1 (hb.pos hm) hN (by omega) ?_
  rw [ha.2, hb.2]
  have e1 := own_pow hk
  have e2 := own_pow hl
  have e3 := own_pow hr
  have p1 := own_pow_pos k
  have p2 := own_pow_pos l
  have p3 := own_pow_pos r
  generalize ((2 ^ 1074 : Nat) : Int) = O at *
  generalize ((2 ^ (1074 - k) : Nat) : Int) = A at *
  generalize ((2 ^ (1074 - l) : Nat) : Int) = B at *
  generalize ((2 ^ (1074 - r) : Nat) : Int) = C at *
  generalize ((2 ^ k : Nat) : Int) = K at *
  generalize ((2 ^ l : Nat) : Int) = L at *
  generalize ((2 ^ r : Nat) : Int) = R at *
  refine Int.eq_of_mul_eq_mul_right (Int.ne_of_gt (Int.mul_pos p1 (Int.mul_pos p2 p3))) ?_
  calc n * A * O * (K * (L * R)) = n * L * R * (A * K) * O := by ac_rfl
    _ = N * m * K * (C * R) * (B * L) := by rw [h, e1, e2, e3]
    _ = N * C * (m * B) * (K * (L * R)) := by ac_rfl
theorem Dy.same {n m n' m' : Int} {k l k' l' : Nat} {a b a' b' : UInt64} (ha : Dy n k a) (hb : Dy m l b) (ha' : Dy n' k' a') (hb' : Dy m' l' b') (pn : 0 < n) (pm : 0 < m) (pn' : 0 < n') (pm' : 0 < m')
    (hk : k ≤ 1074) (hl : l ≤ 1074) (hk' : k' ≤ 1074) (hl' : l' ≤ 1074)
    (h : n * m' * ((2 ^ l : Nat) : Int) * ((2 ^ k' : Nat) : Int) = n' * m * ((2 ^ l' : Nat) : Int) * ((2 ^ k : Nat) : Int)) : Jvm.FP.ddiv a b = Jvm.FP.ddiv a' b' := by
  refine own_div_same ha.1 hb.1 ha'.1 hb'.1 (ha.pos pn) (hb.pos pm) (ha'.pos pn') (hb'.pos pm') ?_
  rw [ha.2, hb.2, ha'.2, hb'.2]
  have e1 := own_pow hk
  have e2 := own_pow hl
  have e3 := own_pow hk'
  have e4 := own_pow hl'
  have p1 := own_pow_pos k
  have p2 := own_pow_pos l
  have p3 := own_pow_pos k'
  have p4 := own_pow_pos l'
  generalize ((2 ^ 1074 : Nat) : Int) = O at *
  generalize ((2 ^ (1074 - k) : Nat) : Int) = A at *
  generalize ((2 ^ (1074 - l) : Nat) : Int) = B at *
  generalize ((2 ^ (1074 - k') : Nat) : Int) = A' at *
  generalize ((2 ^ (1074 - l') : Nat) : Int) = B' at *
  generalize ((2 ^ k : Nat) : Int) = K at *
  generalize ((2 ^ l : Nat) : Int) = L at *
  generalize ((2 ^ k' : Nat) : Int) = K' at *
  generalize ((2 ^ l' : Nat) : Int) = L' at *
  refine Int.eq_of_mul_eq_mul_right (Int.ne_of_gt (Int.mul_pos (Int.mul_pos p1 p2) (Int.mul_pos p3 p4))) ?_
  calc n * A * (m' * B') * (K * L * (K' * L')) = n * m' * L * K' * ((A * K) * (B' * L')) := by ac_rfl
    _ = n' * m * L' * K * ((A' * K') * (B * L)) := by rw [h, e1, e2, e3, e4]
    _ = n' * A' * (m * B) * (K * L * (K' * L')) := by ac_rfl
theorem Dy.cmp {n m : Int} {k : Nat} {a b : UInt64} (ha : Dy n k a) (hb : Dy m k b) (o : Jvm.ClassFile.CmpOp) :
    Jvm.Op.cmpValue (Jvm.FP.dcmp a b) o = if n < m then -1 else if n = m then 0 else 1 := by
  rw [own_cmp_int ha.1.ne_nan hb.1.ne_nan, ha.2, hb.2]
  have p := own_pow_pos (1074 - k)
  generalize ((2 ^ (1074 - k) : Nat) : Int) = A at *
  have e1 : (n * A < m * A) ↔ n < m := ⟨fun q => Int.lt_of_mul_lt_mul_right q (Int.le_of_lt p), fun q => Int.mul_lt_mul_of_pos_right q p⟩
  have e2 : (n * A = m * A) ↔ n = m := ⟨fun q => Int.eq_of_mul_eq_mul_right (Int.ne_of_gt p) q, fun q => by rw [q]⟩
  simp only [e1, e2]
theorem Dy.div_le {n m N : Int} {k r : Nat} {a b : UInt64} (ha : Dy n k a) (hb : Dy m k b) (hm : 0 < m) (hr : r ≤ 1074) (hN : N.natAbs < 2 ^ 53)
    (h : n * ((2 ^ r : Nat) : Int) ≤ N * m) : own_z (Jvm.FP.ddiv a b) ≤ N * ((2 ^ (1074 - r) : Nat) : Int) := by
  refine own_div_le ha.1 hb.1 (hb.pos hm) hN (by omega) ?_
  rw [ha.2, hb.2, ← own_pow hr]
  have p1 := own_pow_pos (1074 - k)
  have p2 := own_pow_pos (1074 - r)
  generalize ((2 ^ (1074 - k) : Nat) : Int) = A at *
  generalize ((2 ^ (1074 - r) : Nat) : Int) = C at *
  generalize ((2 ^ r : Nat) : Int) = R at *
  have q := Int.mul_le_mul_of_nonneg_right h (Int.le_of_lt (Int.mul_pos p1 p2))
  calc n * A * (C * R) = n * R * (A * C) := by ac_rfl
    _ ≤ N * m * (A * C) := q
    _ = N * C * (m * A) := by ac_rfl
theorem Dy.div_ge {n m N : Int} {k r : Nat} {a b : UInt64} (ha : Dy n k a) (hb : Dy m k b) (hm : 0 < m) (hr : r ≤ 1074) (hN : N.natAbs < 2 ^ 53)
    (h : N * m ≤ n * ((2 ^ r : Nat) : Int)) : N * ((2 ^ (1074 - r) : Nat) : Int) ≤ own_z (Jvm.FP.ddiv a b) := by
  refine own_div_ge ha.1 hb.1 (hb.pos hm) hN (by omega) ?_
  rw [ha.2, hb.2, ← own_pow hr]
  have p1 := own_pow_pos (1074 - k)
  have p2 := own_pow_pos (1074 - r)
  generalize ((2 ^ (1074 - k) : Nat) : Int) = A at *
  generalize ((2 ^ (1074 - r) : Nat) : Int) = C at *
  generalize ((2 ^ r : Nat) : Int) = R at *
  have q := Int.mul_le_mul_of_nonneg_right h (Int.le_of_lt (Int.mul_pos p1 p2))
  calc N * C * (m * A) = N * m * (A * C) := by ac_rfl
    _ ≤ n * R * (A * C) := q
    _ = n * A * (C * R) := by ac_rfl
theorem Dy.div_nn {n m : Int} {k l : Nat} {a b : UInt64} (ha : Dy n k a) (hb : Dy m l b) (hm : 0 < m) : val64 (Jvm.FP.ddiv a b) ≠ .nan :=
  own_div_nn ha.1 hb.1 (Int.ne_of_gt (hb.pos hm))
theorem own_fin64 {a : UInt64} (h : DFin a) : Jvm.Free.Fl.Fin64 a := Jvm.Free.Fl.fin64_core.mpr h
theorem own_nz64 {a : UInt64} (h : DFin a) (hz : own_z a ≠ 0) : Jvm.Free.Fl.Nz64 a := Jvm.Free.Fl.nz64_core.mpr (dnot_zero h.ne_nan hz)
theorem own_nn' {a : UInt64} (h : val64 a ≠ .nan) : Jvm.Free.Fl.NoNaN64 a := Jvm.Free.Fl.noNaN64_no.mpr ((notNaN_iff a).mpr h)
theorem own_c_lt (P Q : Prop) [Decidable P] [Decidable Q] : (if P then (-1 : Int32) else if Q then 0 else 1) < (0 : Int32) ↔ P := by
  by_cases h : P
  · rw [if_pos h]; exact ⟨fun _ => h, fun _ => by decide⟩
  · rw [if_neg h]
    by_cases h2 : Q
    · rw [if_pos h2]; exact ⟨fun q => absurd q (by decide), fun q => absurd q h⟩
    · rw [if_neg h2]; exact ⟨fun q => absurd q (by decide), fun q => absurd q h⟩
theorem own_c_gt (P Q : Prop) [Decidable P] [Decidable Q] : (0 : Int32) < (if P then (-1 : Int32) else if Q then 0 else 1) ↔ ¬ P ∧ ¬ Q := by
  by_cases h : P
  · rw [if_pos h]; exact ⟨fun q => absurd q (by decide), fun q => absurd h q.1⟩
  · rw [if_neg h]
    by_cases h2 : Q
    · rw [if_pos h2]; exact ⟨fun q => absurd q (by decide), fun q => absurd h2 q.2⟩
    · rw [if_neg h2]; exact ⟨fun _ => ⟨h, h2⟩, fun _ => by decide⟩
theorem own_c_eq (P Q : Prop) [Decidable P] [Decidable Q] : (if P then (-1 : Int32) else if Q then 0 else 1) = (0 : Int32) ↔ ¬ P ∧ Q := by
  by_cases h : P
  · rw [if_pos h]; exact ⟨fun q => absurd q (by decide), fun q => absurd h q.1⟩
  · rw [if_neg h]
    by_cases h2 : Q
    · rw [if_pos h2]; exact ⟨fun _ => ⟨h, h2⟩, fun _ => rfl⟩
    · rw [if_neg h2]; exact ⟨fun q => absurd q (by decide), fun q => absurd q.2 h2⟩
theorem own_lt0 {a b : UInt64} (ha : val64 a ≠ .nan) (hb : val64 b ≠ .nan) (o : Jvm.ClassFile.CmpOp) : Jvm.Op.cmpValue (Jvm.FP.dcmp a b) o < (0 : Int32) ↔ own_z a < own_z b := by
  rw [own_cmp_int ha hb]; exact own_c_lt _ _
theorem own_gt0 {a b : UInt64} (ha : val64 a ≠ .nan) (hb : val64 b ≠ .nan) (o : Jvm.ClassFile.CmpOp) : (0 : Int32) < Jvm.Op.cmpValue (Jvm.FP.dcmp a b) o ↔ own_z b < own_z a := by
  rw [own_cmp_int ha hb, own_c_gt]; omega
theorem own_eq0 {a b : UInt64} (ha : val64 a ≠ .nan) (hb : val64 b ≠ .nan) (o : Jvm.ClassFile.CmpOp) : Jvm.Op.cmpValue (Jvm.FP.dcmp a b) o = (0 : Int32) ↔ own_z a = own_z b := by
  rw [own_cmp_int ha hb, own_c_eq]; omega
theorem Dy.lt0 {n m : Int} {k : Nat} {a b : UInt64} (ha : Dy n k a) (hb : Dy m k b) (o : Jvm.ClassFile.CmpOp) : Jvm.Op.cmpValue (Jvm.FP.dcmp a b) o < (0 : Int32) ↔ n < m := by
  rw [ha.cmp hb]; exact own_c_lt _ _
theorem Dy.gt0 {n m : Int} {k : Nat} {a b : UInt64} (ha : Dy n k a) (hb : Dy m k b) (o : Jvm.ClassFile.CmpOp) : (0 : Int32) < Jvm.Op.cmpValue (Jvm.FP.dcmp a b) o ↔ m < n := by
  rw [ha.cmp hb, own_c_gt]; omega
theorem Dy.eq0 {n m : Int} {k : Nat} {a b : UInt64} (ha : Dy n k a) (hb : Dy m k b) (o : Jvm.ClassFile.CmpOp) : Jvm.Op.cmpValue (Jvm.FP.dcmp a b) o = (0 : Int32) ↔ n = m := by
  rw [ha.cmp hb, own_c_eq]; omega
theorem Dy.zero (k : Nat) : Dy 0 k Jvm.FP.dconst0 := ⟨⟨false, 0, b64.qmin, val64_dconst0⟩, by rw [Int.zero_mul]; exact zval64_zero⟩
theorem Dy.one : Dy 1 0 Jvm.FP.dconst1 := ⟨⟨false, 2 ^ 52, -52, val64_dconst1⟩, by rw [Int.one_mul]; exact (DInt_zval dint_one).trans (Int.one_mul _)⟩
theorem Dy.d2l {n : Int} {a : UInt64} (ha : Dy n 0 a) (h0 : 0 ≤ n) (h1 : n < 2 ^ 63) : (Jvm.FP.d2l a).toInt = n := by
  rw [show (Jvm.FP.d2l a).toInt = _ from d2l_val ha.1.ne_nan]
  have e : (own_z a).natAbs = zmag b64 (val64 a) := own_zabs _
  have e2 : own_z a = n * ((2 ^ 1074 : Nat) : Int) := ha.2
  have e3 : zmag b64 (val64 a) = n.natAbs * one64 := by rw [← e, e2, Int.natAbs_mul, Int.natAbs_natCast]; rfl
  rw [e3, Nat.mul_div_cancel _ one64_pos]
  by_cases hz : n = 0
  · subst hz
    rw [show (0 : Int).natAbs = 0 from rfl, signed_zero]; decide
  · rw [own_sgn_pos (ha.pos (by omega)), show signed false n.natAbs = (n.natAbs : Int) from rfl]
    omega
theorem Dy.up {n m : Int} {k l : Nat} {a : UInt64} (ha : Dy n k a) (j : Nat) (hl : l = k + j) (h : l ≤ 1074) (hm : m = n * ((2 ^ j : Nat) : Int)) : Dy m l a := by
  refine ha.conv (by omega) h ?_
  subst hl hm
  rw [Nat.pow_add, Int.natCast_mul]
  ac_rfl
end OwnFl
open Jvm Jvm.ClassFile Sem Op Lib Jvm.Free Jvm.Stand Jvm.LawKit Jvm.RoadKit Bundle Jvm.Pilot.@@N@@.Jvm.D
def QP (rv : Option Value) (h0 : Heap) (n0 : Nat) (v : Option Value) (h : Heap) (L : List Loc) : Prop := v = rv ∧ Fr n0 L ∧ h = h0
def QL (n0 : Nat) (v : Option Value) (h : Heap) (L : List Loc) : Prop := v = some (.int (1 : Int32)) ∧ Fr n0 L
theorem d3_0 : decode jdk_30_method_1_code 0 = .ok (.aload_n 0, 1) := by decide +kernel
theorem d3_1 : decode jdk_30_method_1_code 1 = .ok (.invokespecial 1, 3) := by decide +kernel
theorem d3_4 : decode jdk_30_method_1_code 4 = .ok (.return_, 1) := by decide +kernel
theorem pn_3 : plainName "java/lang/Record" = true := by first | (simp [plainName, overriddenIn]; done) | decide +kernel
theorem ef_3 (m : MethodId) (x0 : Addr) : entryFrame m #[(.ref x0)] 1 = mkF m 0 #[.val (.ref x0)] [] := by first | (simp [entryFrame, mkF, argsToLocals, Value.category]; done) | rfl
set_option maxRecDepth 65536 in
set_option maxHeartbeats 40000000 in
theorem rm3 (l : Launch) (Z : State) (a0 : Array Value) (hw : ∀ d ∈ tables_1, d.before a0 Z = true) (ws : List Jvm.Cond) (a1 : Addr) (h0 : Heap) (n0 : Nat) (Z0 : n0 ≤ h0.size) :
    MetFree l (⟨"java/lang/Record", "<init>", "()V"⟩ : MethodName) (head1 (Jvm.Cond.code (⟨"java/lang/Record", "<init>", "()V"⟩ : MethodName) jdk_30_method_1_code 1 none :: ws) ({ frames := 1, cells := 0, slots := 0, locals := 12 } : Room)) (fun a U => a = #[(.ref a1)] ∧ Z.Warmed39 U.vm ∧ U.heap = h0) (fun _ _ _ _ _ => True) (fun _ U o U' => ∃ v L, o = .returned v ∧ QP (none) h0 n0 v U'.heap L ∧ FrameEnd U o U' L ({ frames := 1, cells := 0, slots := 0, locals := 12 } : Room).cells ({ frames := 1, cells := 0, slots := 0, locals := 12 } : Room).slots) := by
  refine MetFree.of_bodySF (plainFor_of_name pn_3) hisR ?_
  intro p e s m args below meth c s₁ Bd hml0 hP hK
  obtain ⟨rfl, hZ, hh⟩ := hP
  have hx := Bd.exec
  have hby := Bd.bytes
  have hml : c.maxLocals = 1 := hml0
  have hown : s.vm.findClass "java/lang/Record" = some m.cls := findClass_of_methodNamed Bd.named
  have hnm := (name_of_methodNamed Bd.named Bd.method).1
  have X0 : Stand p l e ({ frames := 1, cells := 0, slots := 0, locals := 12 } : Room) s m #[(.ref a1)] below meth c s₁ [] 0 0 := Stand.of_body Bd
  have e0 : s₁.heap = h0 := by rw [← hh, Bd.state]; rfl
  have N0 := Fr.nil n0
  have pre0 : ∀ t, Steps p.tables e below (s₁.setTop (mkF m 0 #[.val (.ref a1)] [])) t → Steps p.tables e below (s₁.setTop (entryFrame m #[(.ref a1)] 1)) t := fun t k => castTop (ef_3 m a1) k
  obtain ⟨T2, X2, e2, st2⟩ := initO X0 hx hZ hown (hw _ (List.mem_of_getElem? (i := 16) rfl)) (hw _ (List.mem_of_getElem? (i := 17) rfl)) (hw _ (List.mem_of_getElem? (i := 18) rfl)) e0 (g := (mkF m 1 #[.val (.ref a1)] [(.ref a1)])) rfl (by rw [hml]; rfl) rfl (hb hby d3_1) (by decide) (W := 0) (by show 2 * 0 + _ ≤ _; exact Nat.le_of_eq rfl) (by decide)
  obtain ⟨fs, hr, hrun, hended, hW, hsame⟩ := X2.leave (v := none) (fun _ => rfl)
  refine ⟨_, _, pre0 _ ?_, hrun, hended, _, _, rfl, ?_, ⟨_, rfl⟩, hW, hsame.mono (by decide) (by decide)⟩
  · show Steps p.tables e below (s₁.setTop (mkF m 0 #[.val (.ref a1)] [])) _
    refine XS.aloadN X0.here hx rfl (hb hby d3_0) rfl rfl ?_
    show Steps p.tables e below (s₁.setTop (mkF m 1 #[.val (.ref a1)] [(.ref a1)])) _
    refine st2 _ ?_
    show Steps p.tables e below (T2.setTop (mkF m 4 #[.val (.ref a1)] [])) _
    exact X2.returnOut hx Bd.returns (hb hby d3_4) hr
  · show QP (none) h0 n0 _ T2.heap _
    rw [e2]
    exact ⟨rfl, N0, rfl⟩
theorem d2_0 : decode prog_67_method_1_code 0 = .ok (.aload_n 0, 1) := by decide +kernel
theorem d2_1 : decode prog_67_method_1_code 1 = .ok (.invokespecial 1, 3) := by decide +kernel
theorem d2_4 : decode prog_67_method_1_code 4 = .ok (.aload_n 0, 1) := by decide +kernel
theorem d2_5 : decode prog_67_method_1_code 5 = .ok (.dload_n 1, 1) := by decide +kernel
theorem d2_6 : decode prog_67_method_1_code 6 = .ok (.putfield 7, 3) := by decide +kernel
theorem d2_9 : decode prog_67_method_1_code 9 = .ok (.aload_n 0, 1) := by decide +kernel
theorem d2_10 : decode prog_67_method_1_code 10 = .ok (.dload_n 3, 1) := by decide +kernel
theorem d2_11 : decode prog_67_method_1_code 11 = .ok (.putfield 13, 3) := by decide +kernel
theorem d2_14 : decode prog_67_method_1_code 14 = .ok (.return_, 1) := by decide +kernel
theorem pn_2 : plainName "dev/tidemark/usage/WindowQueue$Response" = true := by first | (simp [plainName, overriddenIn]; done) | decide +kernel
theorem pd_2_2 : parseMethodDescriptor "()V" = some ⟨[], none⟩ := by decide +kernel
theorem ef_2 (m : MethodId) (x0 : Addr) (x1 : UInt64) (x2 : UInt64) : entryFrame m #[(.ref x0), (.double x1), (.double x2)] 5 = mkF m 0 #[.val (.ref x0), .val (.double x1), .second, .val (.double x2), .second] [] := by first | (simp [entryFrame, mkF, argsToLocals, Value.category]; done) | rfl
def Q2 (Z : State) (a1 : Addr) (u2 u3 : UInt64) (h0 : Heap) (n0 : Nat) (v : Option Value) (h : Heap) (L : List Loc) : Prop := v = none ∧ Fr n0 L ∧ Keep h0 h [a1] ∧ Exa Z h a1 "dev/tidemark/usage/WindowQueue$Response" ∧ Fld Z h a1 "dev/tidemark/usage/WindowQueue$Response" "time" "D" (.double u2) ∧ Fld Z h a1 "dev/tidemark/usage/WindowQueue$Response" "slope" "D" (.double u3)
set_option maxRecDepth 65536 in
set_option maxHeartbeats 40000000 in
theorem rm2 (l : Launch) (Z : State) (a0 : Array Value) (hw : ∀ d ∈ tables_1, d.before a0 Z = true) (ws : List Jvm.Cond) (a1 : Addr) (u2 : UInt64) (u3 : UInt64) (u_time_a1 : Value) (u_slope_a1 : Value) (h0 : Heap) (n0 : Nat) (Z0 : n0 ≤ h0.size) (E_a1 : Exa Z h0 a1 "dev/tidemark/usage/WindowQueue$Response") (F_time_a1 : Fld Z h0 a1 "dev/tidemark/usage/WindowQueue$Response" "time" "D" u_time_a1) (g_a1 : n0 ≤ a1) (F_slope_a1 : Fld Z h0 a1 "dev/tidemark/usage/WindowQueue$Response" "slope" "D" u_slope_a1) :
    MetFree l (⟨"dev/tidemark/usage/WindowQueue$Response", "<init>", "(DD)V"⟩ : MethodName) (head1 (Jvm.Cond.code (⟨"dev/tidemark/usage/WindowQueue$Response", "<init>", "(DD)V"⟩ : MethodName) prog_67_method_1_code 5 none :: ws) ({ frames := 2, cells := 0, slots := 0, locals := 24 } : Room)) (fun a U => a = #[(.ref a1), (.double u2), (.double u3)] ∧ Z.Warmed39 U.vm ∧ U.heap = h0) (fun _ _ _ _ _ => True) (fun _ U o U' => ∃ v L, o = .returned v ∧ Q2 Z a1 u2 u3 h0 n0 v U'.heap L ∧ FrameEnd U o U' L ({ frames := 2, cells := 0, slots := 0, locals := 24 } : Room).cells ({ frames := 2, cells := 0, slots := 0, locals := 24 } : Room).slots) := by
  refine MetFree.of_bodySF (plainFor_of_name pn_2) hisR ?_
  intro p e s m args below meth c s₁ Bd hml0 hP hK
  obtain ⟨rfl, hZ, hh⟩ := hP
  have hx := Bd.exec
  have hby := Bd.bytes
  have hml : c.maxLocals = 5 := hml0
  have hown : s.vm.findClass "dev/tidemark/usage/WindowQueue$Response" = some m.cls := findClass_of_methodNamed Bd.named
  have hnm := (name_of_methodNamed Bd.named Bd.method).1
  have X0 : Stand p l e ({ frames := 2, cells := 0, slots := 0, locals := 24 } : Room) s m #[(.ref a1), (.double u2), (.double u3)] below meth c s₁ [] 0 0 := Stand.of_body Bd
  have e0 : s₁.heap = h0 := by rw [← hh, Bd.state]; rfl
  have N0 := Fr.nil n0
  have pre0 : ∀ t, Steps p.tables e below (s₁.setTop (mkF m 0 #[.val (.ref a1), .val (.double u2), .second, .val (.double u3), .second] [])) t → Steps p.tables e below (s₁.setTop (entryFrame m #[(.ref a1), (.double u2), (.double u3)] 5)) t := fun t k => castTop (ef_2 m a1 u2 u3) k
  obtain ⟨_, _, ⟨T4, L4, k4, n4⟩, -, X4, ⟨Lc4, hQ4, l4, y4, z4⟩, st4⟩ := X0.specialBack hx (y := (⟨"java/lang/Record", "<init>", "()V"⟩ : MethodName)) rfl hown (mvT hZ (hw _ (List.mem_of_getElem? (i := 11) rfl))) (mvT hZ (hw _ (List.mem_of_getElem? (i := 12) rfl))) (mvT hZ (hw _ (List.mem_of_getElem? (i := 15) rfl))) (by decide) (backOf (W := 0) (rm3 l Z a0 hw [] a1 h0 n0 Z0) hZ (hw _ (List.mem_of_getElem? (i := 15) rfl)) (hw _ (List.mem_of_getElem? (i := 14) rfl)) (by decide) (by decide)) (g := (mkF m 1 #[.val (.ref a1), .val (.double u2), .second, .val (.double u3), .second] [(.ref a1)])) rfl (by rw [hml]; rfl) (Steps.refl _) (a := a1) (argsL := []) (rest := []) (lenOf pd_2_2 rfl) rfl (by show 2 * 0 + _ ≤ _; exact Nat.le_of_eq rfl) (hb hby d2_1) (fun _ _ => ⟨rfl, e0, (by decide : 0 + 0 ≤ _), (by decide : 0 + 0 ≤ _)⟩)
  dsimp only [Pt.U, Pt.locs, Pt.cells, Pt.slots] at X4 l4 y4 z4 st4 hQ4
  subst l4 y4 z4
  obtain ⟨rfl, N4q, eh4⟩ := hQ4
  have K4c : Keep h0 T4.heap [] := by rw [eh4]; exact Keep.refl _ _
  have N4 := Fr.app N0 N4q
  obtain ⟨T5, h5, X5, e5, W5, st5⟩ := putF X4 hx hZ hown (host := "") (Or.inl (hw _ (List.mem_of_getElem? (i := 19) rfl))) Via.refl rfl (F_time_a1.keep K4c (by simp)) (E_a1.keep K4c) (Or.inr ⟨(hw _ (List.mem_of_getElem? (i := 20) rfl)), rfl, hnm⟩) (hw _ (List.mem_of_getElem? (i := 6) rfl)) (ty := .double) (by decide) rfl rfl (g := (mkF m 6 #[.val (.ref a1), .val (.double u2), .second, .val (.double u3), .second] [(.double u2), (.ref a1)])) rfl rfl (hb hby d2_6)
  have Fw5 := (F_time_a1.keep K4c (by simp)).same W5
  have K5 : Keep h0 h5 [a1] := (show Keep h0 T4.heap [a1] by rw [eh4]; exact Keep.refl _ _).wr W5 (Or.inl (List.mem_of_getElem? (i := 0) rfl))
  have N5 := Fr.snoc X5 N4 g_a1
  obtain ⟨T6, h6, X6, e6, W6, st6⟩ := putF X5 hx hZ hown (host := "") (Or.inl (hw _ (List.mem_of_getElem? (i := 21) rfl))) Via.refl e5 ((F_slope_a1.keep K4c (by simp)).other W5 (Or.inr (slot_ne (Or.inr (hw _ (List.mem_of_getElem? (i := 22) rfl))) (Or.inr (hw _ (List.mem_of_getElem? (i := 20) rfl))) (by decide) (t := .double) (t' := .double) (by decide) (by decide)))) ((E_a1.keep K4c).wr W5) (Or.inr ⟨(hw _ (List.mem_of_getElem? (i := 22) rfl)), rfl, hnm⟩) (hw _ (List.mem_of_getElem? (i := 6) rfl)) (ty := .double) (by decide) rfl rfl (g := (mkF m 11 #[.val (.ref a1), .val (.double u2), .second, .val (.double u3), .second] [(.double u3), (.ref a1)])) rfl rfl (hb hby d2_11)
  have Fw6 := ((F_slope_a1.keep K4c (by simp)).other W5 (Or.inr (slot_ne (Or.inr (hw _ (List.mem_of_getElem? (i := 22) rfl))) (Or.inr (hw _ (List.mem_of_getElem? (i := 20) rfl))) (by decide) (t := .double) (t' := .double) (by decide) (by decide)))).same W6
  have K6 : Keep h0 h6 [a1] := K5.wr W6 (Or.inl (List.mem_of_getElem? (i := 0) rfl))
  have N6 := Fr.snoc X6 N5 g_a1
  obtain ⟨fs, hr, hrun, hended, hW, hsame⟩ := X6.leave (v := none) (fun _ => rfl)
  refine ⟨_, _, pre0 _ ?_, hrun, hended, _, _, rfl, ?_, ⟨_, rfl⟩, hW, hsame.mono (by decide) (by decide)⟩
  · show Steps p.tables e below (s₁.setTop (mkF m 0 #[.val (.ref a1), .val (.double u2), .second, .val (.double u3), .second] [])) _
    refine XS.aloadN X0.here hx rfl (hb hby d2_0) rfl rfl ?_
    show Steps p.tables e below (s₁.setTop (mkF m 1 #[.val (.ref a1), .val (.double u2), .second, .val (.double u3), .second] [(.ref a1)])) _
    refine st4.trans ?_
    show Steps p.tables e below (T4.setTop (mkF m 4 #[.val (.ref a1), .val (.double u2), .second, .val (.double u3), .second] [])) _
    refine XS.aloadN X4.here hx rfl (hb hby d2_4) rfl rfl ?_
    show Steps p.tables e below (T4.setTop (mkF m 5 #[.val (.ref a1), .val (.double u2), .second, .val (.double u3), .second] [(.ref a1)])) _
    refine XS.dloadN X4.here hx rfl (hb hby d2_5) rfl ?_
    show Steps p.tables e below (T4.setTop (mkF m 6 #[.val (.ref a1), .val (.double u2), .second, .val (.double u3), .second] [(.double u2), (.ref a1)])) _
    refine st5 _ ?_
    show Steps p.tables e below (T5.setTop (mkF m 9 #[.val (.ref a1), .val (.double u2), .second, .val (.double u3), .second] [])) _
    refine XS.aloadN X5.here hx rfl (hb hby d2_9) rfl rfl ?_
    show Steps p.tables e below (T5.setTop (mkF m 10 #[.val (.ref a1), .val (.double u2), .second, .val (.double u3), .second] [(.ref a1)])) _
    refine XS.dloadN X5.here hx rfl (hb hby d2_10) rfl ?_
    show Steps p.tables e below (T5.setTop (mkF m 11 #[.val (.ref a1), .val (.double u2), .second, .val (.double u3), .second] [(.double u3), (.ref a1)])) _
    refine st6 _ ?_
    show Steps p.tables e below (T6.setTop (mkF m 14 #[.val (.ref a1), .val (.double u2), .second, .val (.double u3), .second] [])) _
    exact X6.returnOut hx Bd.returns (hb hby d2_14) hr
  · show Q2 Z a1 u2 u3 h0 n0 _ T6.heap _
    rw [e6]
    exact ⟨rfl, N6, K6, (((E_a1.keep K4c).wr W5).wr W6), (Fw5.other W6 (Or.inr (slot_ne (Or.inr (hw _ (List.mem_of_getElem? (i := 20) rfl))) (Or.inr (hw _ (List.mem_of_getElem? (i := 22) rfl))) (by decide) (t := .double) (t' := .double) (by decide) (by decide)))), Fw6⟩
theorem d1_0 : decode prog_66_method_7_code 0 = .ok (.dload 4, 2) := by decide +kernel
theorem d1_2 : decode prog_66_method_7_code 2 = .ok (.dload_n 2, 1) := by decide +kernel
theorem d1_3 : decode prog_66_method_7_code 3 = .ok (.dsub, 1) := by decide +kernel
theorem d1_4 : decode prog_66_method_7_code 4 = .ok (.dstore 8, 2) := by decide +kernel
theorem d1_6 : decode prog_66_method_7_code 6 = .ok (.dload 8, 2) := by decide +kernel
theorem d1_8 : decode prog_66_method_7_code 8 = .ok (.dconst 0, 1) := by decide +kernel
theorem d1_9 : decode prog_66_method_7_code 9 = .ok (.dcmp .l, 1) := by decide +kernel
theorem d1_10 : decode prog_66_method_7_code 10 = .ok (.ifCond .le 39, 3) := by decide +kernel
theorem d1_49 : decode prog_66_method_7_code 49 = .ok (.dload_n 0, 1) := by decide +kernel
theorem d1_50 : decode prog_66_method_7_code 50 = .ok (.dload 8, 2) := by decide +kernel
theorem d1_52 : decode prog_66_method_7_code 52 = .ok (.dload 6, 2) := by decide +kernel
theorem d1_54 : decode prog_66_method_7_code 54 = .ok (.dmul, 1) := by decide +kernel
theorem d1_55 : decode prog_66_method_7_code 55 = .ok (.ldc2_w 90, 3) := by decide +kernel
theorem d1_58 : decode prog_66_method_7_code 58 = .ok (.ddiv, 1) := by decide +kernel
theorem d1_59 : decode prog_66_method_7_code 59 = .ok (.dsub, 1) := by decide +kernel
theorem d1_60 : decode prog_66_method_7_code 60 = .ok (.dstore 10, 2) := by decide +kernel
theorem d1_62 : decode prog_66_method_7_code 62 = .ok (.dload 6, 2) := by decide +kernel
theorem d1_64 : decode prog_66_method_7_code 64 = .ok (.dneg, 1) := by decide +kernel
theorem d1_65 : decode prog_66_method_7_code 65 = .ok (.ldc2_w 90, 3) := by decide +kernel
theorem d1_68 : decode prog_66_method_7_code 68 = .ok (.ddiv, 1) := by decide +kernel
theorem d1_69 : decode prog_66_method_7_code 69 = .ok (.dstore 12, 2) := by decide +kernel
theorem d1_71 : decode prog_66_method_7_code 71 = .ok (.dload 10, 2) := by decide +kernel
theorem d1_73 : decode prog_66_method_7_code 73 = .ok (.dconst 1, 1) := by decide +kernel
theorem d1_74 : decode prog_66_method_7_code 74 = .ok (.dadd, 1) := by decide +kernel
theorem d1_75 : decode prog_66_method_7_code 75 = .ok (.dload 4, 2) := by decide +kernel
theorem d1_77 : decode prog_66_method_7_code 77 = .ok (.ddiv, 1) := by decide +kernel
theorem d1_78 : decode prog_66_method_7_code 78 = .ok (.dstore 14, 2) := by decide +kernel
theorem d1_80 : decode prog_66_method_7_code 80 = .ok (.new 92, 3) := by decide +kernel
theorem d1_83 : decode prog_66_method_7_code 83 = .ok (.dup, 1) := by decide +kernel
theorem d1_84 : decode prog_66_method_7_code 84 = .ok (.dload 14, 2) := by decide +kernel
theorem d1_86 : decode prog_66_method_7_code 86 = .ok (.dload 12, 2) := by decide +kernel
theorem d1_88 : decode prog_66_method_7_code 88 = .ok (.dload 14, 2) := by decide +kernel
theorem d1_90 : decode prog_66_method_7_code 90 = .ok (.dsub, 1) := by decide +kernel
theorem d1_91 : decode prog_66_method_7_code 91 = .ok (.dload 4, 2) := by decide +kernel
theorem d1_93 : decode prog_66_method_7_code 93 = .ok (.ddiv, 1) := by decide +kernel
theorem d1_94 : decode prog_66_method_7_code 94 = .ok (.invokespecial 94, 3) := by decide +kernel
theorem d1_97 : decode prog_66_method_7_code 97 = .ok (.areturn, 1) := by decide +kernel
theorem pn_1 : plainName "dev/tidemark/usage/WindowQueue" = true := by first | (simp [plainName, overriddenIn]; done) | decide +kernel
theorem pd_1_1 : parseMethodDescriptor "(DD)V" = some ⟨[.double, .double], none⟩ := by decide +kernel
theorem ef_1 (m : MethodId) (x0 : UInt64) (x1 : UInt64) (x2 : UInt64) (x3 : UInt64) : entryFrame m #[(.double x0), (.double x1), (.double x2), (.double x3)] 16 = mkF m 0 #[.val (.double x0), .second, .val (.double x1), .second, .val (.double x2), .second, .val (.double x3), .second, .unset, .unset, .unset, .unset, .unset, .unset, .unset, .unset] [] := by first | (simp [entryFrame, mkF, argsToLocals, Value.category]; done) | rfl
def Q1 (Z : State) (tm sl : UInt64) (h0 : Heap) (n0 : Nat) (v : Option Value) (h : Heap) (L : List Loc) : Prop := ∃ b : Addr, v = some (.ref b) ∧ Fr n0 L ∧ Keep h0 h [] ∧ Exa Z h b "dev/tidemark/usage/WindowQueue$Response" ∧ Fld Z h b "dev/tidemark/usage/WindowQueue$Response" "time" "D" (.double tm) ∧ Fld Z h b "dev/tidemark/usage/WindowQueue$Response" "slope" "D" (.double sl)
set_option maxRecDepth 65536 in
set_option maxHeartbeats 40000000 in
theorem rm1_t (l : Launch) (Z : State) (a0 : Array Value) (hw : ∀ d ∈ tables_1, d.before a0 Z = true) (ws : List Jvm.Cond) (u1 : UInt64) (u2 : UInt64) (u3 : UInt64) (u4 : UInt64) (r3 : UInt64) (r54 : UInt64) (r58 : UInt64) (r59 : UInt64) (r68 : UInt64) (r74 : UInt64) (r77 : UInt64) (r90 : UInt64) (r93 : UInt64) (h0 : Heap) (n0 : Nat) (Z0 : n0 ≤ h0.size) (hv3 : (FP.dsub u3 u2) = r3) (hn3 : Jvm.Free.Fl.NoNaN64 (FP.dsub u3 u2)) (hc10 : ¬ ((0 : Int32) < (cmpValue (FP.dcmp r3 FP.dconst0) .l))) (hv54 : (FP.dmul r3 u4) = r54) (hn54 : Jvm.Free.Fl.NoNaN64 (FP.dmul r3 u4)) (hv58 : (FP.ddiv r54 (4611686018427387904 : UInt64)) = r58) (hn58 : Jvm.Free.Fl.NoNaN64 (FP.ddiv r54 (4611686018427387904 : UInt64))) (hv59 : (FP.dsub u1 r58) = r59) (hn59 : Jvm.Free.Fl.NoNaN64 (FP.dsub u1 r58)) (hv68 : (FP.ddiv (FP.dneg u4) (4611686018427387904 : UInt64)) = r68) (hn68 : Jvm.Free.Fl.NoNaN64 (FP.ddiv (FP.dneg u4) (4611686018427387904 : UInt64))) (hv74 : (FP.dadd r59 FP.dconst1) = r74) (hn74 : Jvm.Free.Fl.NoNaN64 (FP.dadd r59 FP.dconst1)) (hv77 : (FP.ddiv r74 u3) = r77) (hn77 : Jvm.Free.Fl.NoNaN64 (FP.ddiv r74 u3)) (hv90 : (FP.dsub r68 r77) = r90) (hn90 : Jvm.Free.Fl.NoNaN64 (FP.dsub r68 r77)) (hv93 : (FP.ddiv r90 u3) = r93) (hn93 : Jvm.Free.Fl.NoNaN64 (FP.ddiv r90 u3)) :
    MetFree l (⟨"dev/tidemark/usage/WindowQueue", "approximateResponse", "(DDDD)Ldev/tidemark/usage/WindowQueue$Response;"⟩ : MethodName) (head1 (Jvm.Cond.code (⟨"dev/tidemark/usage/WindowQueue", "approximateResponse", "(DDDD)Ldev/tidemark/usage/WindowQueue$Response;"⟩ : MethodName) prog_66_method_7_code 16 (some (.object "dev/tidemark/usage/WindowQueue$Response")) :: ws) ({ frames := 3, cells := 1, slots := 2, locals := 41 } : Room)) (fun a U => a = #[(.double u1), (.double u2), (.double u3), (.double u4)] ∧ Z.Warmed39 U.vm ∧ U.heap = h0) (fun _ _ _ _ _ => True) (fun _ U o U' => ∃ v L, o = .returned v ∧ Q1 Z r77 r93 h0 n0 v U'.heap L ∧ FrameEnd U o U' L ({ frames := 3, cells := 1, slots := 2, locals := 41 } : Room).cells ({ frames := 3, cells := 1, slots := 2, locals := 41 } : Room).slots) := by
  refine MetFree.of_bodySF (plainFor_of_name pn_1) hisR ?_
  intro p e s m args below meth c s₁ Bd hml0 hP hK
  obtain ⟨rfl, hZ, hh⟩ := hP
  have hx := Bd.exec
  have hby := Bd.bytes
  have hml : c.maxLocals = 16 := hml0
  have hown : s.vm.findClass "dev/tidemark/usage/WindowQueue" = some m.cls := findClass_of_methodNamed Bd.named
  have hnm := (name_of_methodNamed Bd.named Bd.method).1
  have X0 : Stand p l e ({ frames := 3, cells := 1, slots := 2, locals := 41 } : Room) s m #[(.double u1), (.double u2), (.double u3), (.double u4)] below meth c s₁ [] 0 0 := Stand.of_body Bd
  have e0 : s₁.heap = h0 := by rw [← hh, Bd.state]; rfl
  have N0 := Fr.nil n0
  have pre0 : ∀ t, Steps p.tables e below (s₁.setTop (mkF m 0 #[.val (.double u1), .second, .val (.double u2), .second, .val (.double u3), .second, .val (.double u4), .second, .unset, .unset, .unset, .unset, .unset, .unset, .unset, .unset] [])) t → Steps p.tables e below (s₁.setTop (entryFrame m #[(.double u1), (.double u2), (.double u3), (.double u4)] 16)) t := fun t k => castTop (ef_1 m u1 u2 u3 u4) k
  obtain ⟨T5, h5, X5, e5, E5, A5, D5, -, st5⟩ := newO X0 hx hZ hown (hw _ (List.mem_of_getElem? (i := 5) rfl)) (hw _ (List.mem_of_getElem? (i := 6) rfl)) (hw _ (List.mem_of_getElem? (i := 7) rfl)) e0 (g := (mkF m 80 #[.val (.double u1), .second, .val (.double u2), .second, .val (.double u3), .second, .val (.double u4), .second, .val (.double r3), .second, .val (.double r59), .second, .val (.double r68), .second, .val (.double r77), .second] [])) rfl (hb hby d1_80) (by decide) (by decide)
  obtain ⟨b5, g5⟩ : ∃ z, z = h0.size := ⟨_, rfl⟩
  rw [← g5] at A5 D5 st5
  have F_time_b5 : Fld Z h5 b5 "dev/tidemark/usage/WindowQueue$Response" "time" "D" (.double (0 : UInt64)) := D5 (Or.inr (hw _ (List.mem_of_getElem? (i := 20) rfl))) (ty := .double) (by decide)
  have F_slope_b5 : Fld Z h5 b5 "dev/tidemark/usage/WindowQueue$Response" "slope" "D" (.double (0 : UInt64)) := D5 (Or.inr (hw _ (List.mem_of_getElem? (i := 22) rfl))) (ty := .double) (by decide)
  have E_b5 := A5
  have g_b5 : n0 ≤ b5 := Nat.le_trans Z0 (Nat.le_of_eq g5.symm)
  have sz_b5 : h0.size ≤ b5 := (Nat.le_trans (Keep.refl h0 []).1 (Nat.le_of_eq g5.symm))
  have K5 : Keep h0 h5 [] := (Keep.refl h0 []).ext E5
  obtain ⟨_, _, ⟨T6, L6, k6, n6⟩, -, X6, ⟨Lc6, hQ6, l6, y6, z6⟩, st6⟩ := X5.specialBack hx (y := (⟨"dev/tidemark/usage/WindowQueue$Response", "<init>", "(DD)V"⟩ : MethodName)) rfl hown (mvT hZ (hw _ (List.mem_of_getElem? (i := 8) rfl))) (mvT hZ (hw _ (List.mem_of_getElem? (i := 9) rfl))) (mvT hZ (hw _ (List.mem_of_getElem? (i := 10) rfl))) (by decide) (backOf (W := 1) (rm2 l Z a0 hw [] b5 r77 r93 _ _ h5 n0 (Nat.le_trans Z0 E5.1) E_b5 F_time_b5 g_b5 F_slope_b5) hZ (hw _ (List.mem_of_getElem? (i := 10) rfl)) (hw _ (List.mem_of_getElem? (i := 7) rfl)) (by decide) (by decide)) (g := (mkF m 94 #[.val (.double u1), .second, .val (.double u2), .second, .val (.double u3), .second, .val (.double u4), .second, .val (.double r3), .second, .val (.double r59), .second, .val (.double r68), .second, .val (.double r77), .second] [(.double r93), (.double r77), (.ref b5), (.ref b5)])) rfl (by rw [hml]; rfl) (Steps.refl _) (a := b5) (argsL := [(.double r77), (.double r93)]) (rest := [(.ref b5)]) (lenOf pd_1_1 rfl) rfl (by show 2 * 0 + _ ≤ _; exact Nat.le_of_eq rfl) (hb hby d1_94) (fun _ _ => ⟨rfl, e5, (by decide : 1 + 0 ≤ _), (by decide : 2 + 0 ≤ _)⟩)
  dsimp only [Pt.U, Pt.locs, Pt.cells, Pt.slots] at X6 l6 y6 z6 st6 hQ6
  subst l6 y6 z6
  obtain ⟨rfl, N6q, K6c, E6, Ft6, Fs6⟩ := hQ6
  have N6 := Fr.app N0 N6q
  obtain ⟨fs, hr, hrun, hended, hW, hsame⟩ := X6.leave (v := some (.ref b5)) (fun h => by rw [Bd.returns] at h; cases h)
  refine ⟨_, _, pre0 _ ?_, hrun, hended, _, _, rfl, ?_, ⟨_, rfl⟩, hW, hsame.mono (by decide) (by decide)⟩
  · show Steps p.tables e below (s₁.setTop (mkF m 0 #[.val (.double u1), .second, .val (.double u2), .second, .val (.double u3), .second, .val (.double u4), .second, .unset, .unset, .unset, .unset, .unset, .unset, .unset, .unset] [])) _
    refine XS.dload X0.here hx rfl (hb hby d1_0) rfl ?_
    show Steps p.tables e below (s₁.setTop (mkF m 2 #[.val (.double u1), .second, .val (.double u2), .second, .val (.double u3), .second, .val (.double u4), .second, .unset, .unset, .unset, .unset, .unset, .unset, .unset, .unset] [(.double u3)])) _
    refine XS.dloadN X0.here hx rfl (hb hby d1_2) rfl ?_
    show Steps p.tables e below (s₁.setTop (mkF m 3 #[.val (.double u1), .second, .val (.double u2), .second, .val (.double u3), .second, .val (.double u4), .second, .unset, .unset, .unset, .unset, .unset, .unset, .unset, .unset] [(.double u2), (.double u3)])) _
    refine XS.dsubS X0.here hx rfl (hb hby d1_3) rfl hn3 hv3 ?_
    show Steps p.tables e below (s₁.setTop (mkF m 4 #[.val (.double u1), .second, .val (.double u2), .second, .val (.double u3), .second, .val (.double u4), .second, .unset, .unset, .unset, .unset, .unset, .unset, .unset, .unset] [(.double r3)])) _
    refine XS.dstore X0.here hx rfl (hb hby d1_4) rfl (l' := #[.val (.double u1), .second, .val (.double u2), .second, .val (.double u3), .second, .val (.double u4), .second, .val (.double r3), .second, .unset, .unset, .unset, .unset, .unset, .unset]) rfl ?_
    show Steps p.tables e below (s₁.setTop (mkF m 6 #[.val (.double u1), .second, .val (.double u2), .second, .val (.double u3), .second, .val (.double u4), .second, .val (.double r3), .second, .unset, .unset, .unset, .unset, .unset, .unset] [])) _
    refine XS.dload X0.here hx rfl (hb hby d1_6) rfl ?_
    show Steps p.tables e below (s₁.setTop (mkF m 8 #[.val (.double u1), .second, .val (.double u2), .second, .val (.double u3), .second, .val (.double u4), .second, .val (.double r3), .second, .unset, .unset, .unset, .unset, .unset, .unset] [(.double r3)])) _
    refine XS.dconst0 X0.here hx rfl (hb hby d1_8) rfl ?_
    show Steps p.tables e below (s₁.setTop (mkF m 9 #[.val (.double u1), .second, .val (.double u2), .second, .val (.double u3), .second, .val (.double u4), .second, .val (.double r3), .second, .unset, .unset, .unset, .unset, .unset, .unset] [(.double FP.dconst0), (.double r3)])) _
    refine XS.dcmpS X0.here hx rfl (hb hby d1_9) rfl rfl ?_
    show Steps p.tables e below (s₁.setTop (mkF m 10 #[.val (.double u1), .second, .val (.double u2), .second, .val (.double u3), .second, .val (.double u4), .second, .val (.double r3), .second, .unset, .unset, .unset, .unset, .unset, .unset] [(.int (cmpValue (FP.dcmp r3 FP.dconst0) .l))])) _
    refine XS.ifYes X0.here hx rfl (pc0 := 10) (pc' := 49) rfl (hb hby d1_10) rfl ((if0 _ _).trans (flt hc10).2.2.2) (by decide) (by decide) ?_
    show Steps p.tables e below (s₁.setTop (mkF m 49 #[.val (.double u1), .second, .val (.double u2), .second, .val (.double u3), .second, .val (.double u4), .second, .val (.double r3), .second, .unset, .unset, .unset, .unset, .unset, .unset] [])) _
    refine XS.dloadN X0.here hx rfl (hb hby d1_49) rfl ?_
    show Steps p.tables e below (s₁.setTop (mkF m 50 #[.val (.double u1), .second, .val (.double u2), .second, .val (.double u3), .second, .val (.double u4), .second, .val (.double r3), .second, .unset, .unset, .unset, .unset, .unset, .unset] [(.double u1)])) _
    refine XS.dload X0.here hx rfl (hb hby d1_50) rfl ?_
    show Steps p.tables e below (s₁.setTop (mkF m 52 #[.val (.double u1), .second, .val (.double u2), .second, .val (.double u3), .second, .val (.double u4), .second, .val (.double r3), .second, .unset, .unset, .unset, .unset, .unset, .unset] [(.double r3), (.double u1)])) _
    refine XS.dload X0.here hx rfl (hb hby d1_52) rfl ?_
    show Steps p.tables e below (s₁.setTop (mkF m 54 #[.val (.double u1), .second, .val (.double u2), .second, .val (.double u3), .second, .val (.double u4), .second, .val (.double r3), .second, .unset, .unset, .unset, .unset, .unset, .unset] [(.double u4), (.double r3), (.double u1)])) _
    refine XS.dmulS X0.here hx rfl (hb hby d1_54) rfl hn54 hv54 ?_
    show Steps p.tables e below (s₁.setTop (mkF m 55 #[.val (.double u1), .second, .val (.double u2), .second, .val (.double u3), .second, .val (.double u4), .second, .val (.double r3), .second, .unset, .unset, .unset, .unset, .unset, .unset] [(.double r54), (.double u1)])) _
    refine X0.ldc2DoubleC hx hown (mvT hZ (hw _ (List.mem_of_getElem? (i := 4) rfl))) (g := (mkF m 55 #[.val (.double u1), .second, .val (.double u2), .second, .val (.double u3), .second, .val (.double u4), .second, .val (.double r3), .second, .unset, .unset, .unset, .unset, .unset, .unset] [(.double r54), (.double u1)])) rfl (hb hby d1_55) _ ?_
    show Steps p.tables e below (s₁.setTop (mkF m 58 #[.val (.double u1), .second, .val (.double u2), .second, .val (.double u3), .second, .val (.double u4), .second, .val (.double r3), .second, .unset, .unset, .unset, .unset, .unset, .unset] [(.double (4611686018427387904 : UInt64)), (.double r54), (.double u1)])) _
    refine XS.ddivS X0.here hx rfl (hb hby d1_58) rfl hn58 hv58 ?_
    show Steps p.tables e below (s₁.setTop (mkF m 59 #[.val (.double u1), .second, .val (.double u2), .second, .val (.double u3), .second, .val (.double u4), .second, .val (.double r3), .second, .unset, .unset, .unset, .unset, .unset, .unset] [(.double r58), (.double u1)])) _
    refine XS.dsubS X0.here hx rfl (hb hby d1_59) rfl hn59 hv59 ?_
    show Steps p.tables e below (s₁.setTop (mkF m 60 #[.val (.double u1), .second, .val (.double u2), .second, .val (.double u3), .second, .val (.double u4), .second, .val (.double r3), .second, .unset, .unset, .unset, .unset, .unset, .unset] [(.double r59)])) _
    refine XS.dstore X0.here hx rfl (hb hby d1_60) rfl (l' := #[.val (.double u1), .second, .val (.double u2), .second, .val (.double u3), .second, .val (.double u4), .second, .val (.double r3), .second, .val (.double r59), .second, .unset, .unset, .unset, .unset]) rfl ?_
    show Steps p.tables e below (s₁.setTop (mkF m 62 #[.val (.double u1), .second, .val (.double u2), .second, .val (.double u3), .second, .val (.double u4), .second, .val (.double r3), .second, .val (.double r59), .second, .unset, .unset, .unset, .unset] [])) _
    refine XS.dload X0.here hx rfl (hb hby d1_62) rfl ?_
    show Steps p.tables e below (s₁.setTop (mkF m 64 #[.val (.double u1), .second, .val (.double u2), .second, .val (.double u3), .second, .val (.double u4), .second, .val (.double r3), .second, .val (.double r59), .second, .unset, .unset, .unset, .unset] [(.double u4)])) _
    refine XS.dnegS X0.here hx rfl (hb hby d1_64) rfl rfl ?_
    show Steps p.tables e below (s₁.setTop (mkF m 65 #[.val (.double u1), .second, .val (.double u2), .second, .val (.double u3), .second, .val (.double u4), .second, .val (.double r3), .second, .val (.double r59), .second, .unset, .unset, .unset, .unset] [(.double (FP.dneg u4))])) _
    refine X0.ldc2DoubleC hx hown (mvT hZ (hw _ (List.mem_of_getElem? (i := 4) rfl))) (g := (mkF m 65 #[.val (.double u1), .second, .val (.double u2), .second, .val (.double u3), .second, .val (.double u4), .second, .val (.double r3), .second, .val (.double r59), .second, .unset, .unset, .unset, .unset] [(.double (FP.dneg u4))])) rfl (hb hby d1_65) _ ?_
    show Steps p.tables e below (s₁.setTop (mkF m 68 #[.val (.double u1), .second, .val (.double u2), .second, .val (.double u3), .second, .val (.double u4), .second, .val (.double r3), .second, .val (.double r59), .second, .unset, .unset, .unset, .unset] [(.double (4611686018427387904 : UInt64)), (.double (FP.dneg u4))])) _
    refine XS.ddivS X0.here hx rfl (hb hby d1_68) rfl hn68 hv68 ?_
    show Steps p.tables e below (s₁.setTop (mkF m 69 #[.val (.double u1), .second, .val (.double u2), .second, .val (.double u3), .second, .val (.double u4), .second, .val (.double r3), .second, .val (.double r59), .second, .unset, .unset, .unset, .unset] [(.double r68)])) _
    refine XS.dstore X0.here hx rfl (hb hby d1_69) rfl (l' := #[.val (.double u1), .second, .val (.double u2), .second, .val (.double u3), .second, .val (.double u4), .second, .val (.double r3), .second, .val (.double r59), .second, .val (.double r68), .second, .unset, .unset]) rfl ?_
    show Steps p.tables e below (s₁.setTop (mkF m 71 #[.val (.double u1), .second, .val (.double u2), .second, .val (.double u3), .second, .val (.double u4), .second, .val (.double r3), .second, .val (.double r59), .second, .val (.double r68), .second, .unset, .unset] [])) _
    refine XS.dload X0.here hx rfl (hb hby d1_71) rfl ?_
    show Steps p.tables e below (s₁.setTop (mkF m 73 #[.val (.double u1), .second, .val (.double u2), .second, .val (.double u3), .second, .val (.double u4), .second, .val (.double r3), .second, .val (.double r59), .second, .val (.double r68), .second, .unset, .unset] [(.double r59)])) _
    refine XS.dconst1 X0.here hx rfl (hb hby d1_73) rfl ?_
    show Steps p.tables e below (s₁.setTop (mkF m 74 #[.val (.double u1), .second, .val (.double u2), .second, .val (.double u3), .second, .val (.double u4), .second, .val (.double r3), .second, .val (.double r59), .second, .val (.double r68), .second, .unset, .unset] [(.double FP.dconst1), (.double r59)])) _
    refine XS.daddS X0.here hx rfl (hb hby d1_74) rfl hn74 hv74 ?_
    show Steps p.tables e below (s₁.setTop (mkF m 75 #[.val (.double u1), .second, .val (.double u2), .second, .val (.double u3), .second, .val (.double u4), .second, .val (.double r3), .second, .val (.double r59), .second, .val (.double r68), .second, .unset, .unset] [(.double r74)])) _
    refine XS.dload X0.here hx rfl (hb hby d1_75) rfl ?_
    show Steps p.tables e below (s₁.setTop (mkF m 77 #[.val (.double u1), .second, .val (.double u2), .second, .val (.double u3), .second, .val (.double u4), .second, .val (.double r3), .second, .val (.double r59), .second, .val (.double r68), .second, .unset, .unset] [(.double u3), (.double r74)])) _
    refine XS.ddivS X0.here hx rfl (hb hby d1_77) rfl hn77 hv77 ?_
    show Steps p.tables e below (s₁.setTop (mkF m 78 #[.val (.double u1), .second, .val (.double u2), .second, .val (.double u3), .second, .val (.double u4), .second, .val (.double r3), .second, .val (.double r59), .second, .val (.double r68), .second, .unset, .unset] [(.double r77)])) _
    refine XS.dstore X0.here hx rfl (hb hby d1_78) rfl (l' := #[.val (.double u1), .second, .val (.double u2), .second, .val (.double u3), .second, .val (.double u4), .second, .val (.double r3), .second, .val (.double r59), .second, .val (.double r68), .second, .val (.double r77), .second]) rfl ?_
    show Steps p.tables e below (s₁.setTop (mkF m 80 #[.val (.double u1), .second, .val (.double u2), .second, .val (.double u3), .second, .val (.double u4), .second, .val (.double r3), .second, .val (.double r59), .second, .val (.double r68), .second, .val (.double r77), .second] [])) _
    refine st5 _ ?_
    show Steps p.tables e below (T5.setTop (mkF m 83 #[.val (.double u1), .second, .val (.double u2), .second, .val (.double u3), .second, .val (.double u4), .second, .val (.double r3), .second, .val (.double r59), .second, .val (.double r68), .second, .val (.double r77), .second] [(.ref b5)])) _
    refine XS.dup X5.here hx rfl (hb hby d1_83) rfl rfl ?_
    show Steps p.tables e below (T5.setTop (mkF m 84 #[.val (.double u1), .second, .val (.double u2), .second, .val (.double u3), .second, .val (.double u4), .second, .val (.double r3), .second, .val (.double r59), .second, .val (.double r68), .second, .val (.double r77), .second] [(.ref b5), (.ref b5)])) _
    refine XS.dload X5.here hx rfl (hb hby d1_84) rfl ?_
    show Steps p.tables e below (T5.setTop (mkF m 86 #[.val (.double u1), .second, .val (.double u2), .second, .val (.double u3), .second, .val (.double u4), .second, .val (.double r3), .second, .val (.double r59), .second, .val (.double r68), .second, .val (.double r77), .second] [(.double r77), (.ref b5), (.ref b5)])) _
    refine XS.dload X5.here hx rfl (hb hby d1_86) rfl ?_
    show Steps p.tables e below (T5.setTop (mkF m 88 #[.val (.double u1), .second, .val (.double u2), .second, .val (.double u3), .second, .val (.double u4), .second, .val (.double r3), .second, .val (.double r59), .second, .val (.double r68), .second, .val (.double r77), .second] [(.double r68), (.double r77), (.ref b5), (.ref b5)])) _
    refine XS.dload X5.here hx rfl (hb hby d1_88) rfl ?_
    show Steps p.tables e below (T5.setTop (mkF m 90 #[.val (.double u1), .second, .val (.double u2), .second, .val (.double u3), .second, .val (.double u4), .second, .val (.double r3), .second, .val (.double r59), .second, .val (.double r68), .second, .val (.double r77), .second] [(.double r77), (.double r68), (.double r77), (.ref b5), (.ref b5)])) _
    refine XS.dsubS X5.here hx rfl (hb hby d1_90) rfl hn90 hv90 ?_
    show Steps p.tables e below (T5.setTop (mkF m 91 #[.val (.double u1), .second, .val (.double u2), .second, .val (.double u3), .second, .val (.double u4), .second, .val (.double r3), .second, .val (.double r59), .second, .val (.double r68), .second, .val (.double r77), .second] [(.double r90), (.double r77), (.ref b5), (.ref b5)])) _
    refine XS.dload X5.here hx rfl (hb hby d1_91) rfl ?_
    show Steps p.tables e below (T5.setTop (mkF m 93 #[.val (.double u1), .second, .val (.double u2), .second, .val (.double u3), .second, .val (.double u4), .second, .val (.double r3), .second, .val (.double r59), .second, .val (.double r68), .second, .val (.double r77), .second] [(.double u3), (.double r90), (.double r77), (.ref b5), (.ref b5)])) _
    refine XS.ddivS X5.here hx rfl (hb hby d1_93) rfl hn93 hv93 ?_
    show Steps p.tables e below (T5.setTop (mkF m 94 #[.val (.double u1), .second, .val (.double u2), .second, .val (.double u3), .second, .val (.double u4), .second, .val (.double r3), .second, .val (.double r59), .second, .val (.double r68), .second, .val (.double r77), .second] [(.double r93), (.double r77), (.ref b5), (.ref b5)])) _
    refine st6.trans ?_
    show Steps p.tables e below (T6.setTop (mkF m 97 #[.val (.double u1), .second, .val (.double u2), .second, .val (.double u3), .second, .val (.double u4), .second, .val (.double r3), .second, .val (.double r59), .second, .val (.double r68), .second, .val (.double r77), .second] [(.ref b5)])) _
    exact retOut X6 hx Bd.returns rfl (Or.inr (Or.inr (Or.inr (Or.inr ⟨rfl, rfl, rfl⟩)))) (hb hby d1_97) hr
  · show Q1 Z r77 r93 h0 n0 _ T6.heap _
    exact ⟨b5, rfl, N6, K5.trans K6c (fun x hx => Or.inr (by rw [List.mem_singleton] at hx; subst hx; exact sz_b5)), E6, Ft6, Fs6⟩
theorem d1_13 : decode prog_66_method_7_code 13 = .ok (.dload_n 0, 1) := by decide +kernel
theorem d1_14 : decode prog_66_method_7_code 14 = .ok (.dload 6, 2) := by decide +kernel
theorem d1_16 : decode prog_66_method_7_code 16 = .ok (.dload 8, 2) := by decide +kernel
theorem d1_18 : decode prog_66_method_7_code 18 = .ok (.dmul, 1) := by decide +kernel
theorem d1_19 : decode prog_66_method_7_code 19 = .ok (.dcmp .g, 1) := by decide +kernel
theorem d1_20 : decode prog_66_method_7_code 20 = .ok (.ifCond .ge 29, 3) := by decide +kernel
set_option maxRecDepth 65536 in
set_option maxHeartbeats 40000000 in
theorem rm1_ft (l : Launch) (Z : State) (a0 : Array Value) (hw : ∀ d ∈ tables_1, d.before a0 Z = true) (ws : List Jvm.Cond) (u1 : UInt64) (u2 : UInt64) (u3 : UInt64) (u4 : UInt64) (r3 : UInt64) (r18 : UInt64) (r54 : UInt64) (r58 : UInt64) (r59 : UInt64) (r68 : UInt64) (r74 : UInt64) (r77 : UInt64) (r90 : UInt64) (r93 : UInt64) (h0 : Heap) (n0 : Nat) (Z0 : n0 ≤ h0.size) (hv3 : (FP.dsub u3 u2) = r3) (hn3 : Jvm.Free.Fl.NoNaN64 (FP.dsub u3 u2)) (hc10 : (0 : Int32) < (cmpValue (FP.dcmp r3 FP.dconst0) .l)) (hv18 : (FP.dmul u4 r3) = r18) (hn18 : Jvm.Free.Fl.NoNaN64 (FP.dmul u4 r3)) (hc20 : ¬ ((cmpValue (FP.dcmp u1 r18) .g) < (0 : Int32))) (hv54 : (FP.dmul r3 u4) = r54) (hn54 : Jvm.Free.Fl.NoNaN64 (FP.dmul r3 u4)) (hv58 : (FP.ddiv r54 (4611686018427387904 : UInt64)) = r58) (hn58 : Jvm.Free.Fl.NoNaN64 (FP.ddiv r54 (4611686018427387904 : UInt64))) (hv59 : (FP.dsub u1 r58) = r59) (hn59 : Jvm.Free.Fl.NoNaN64 (FP.dsub u1 r58)) (hv68 : (FP.ddiv (FP.dneg u4) (4611686018427387904 : UInt64)) = r68) (hn68 : Jvm.Free.Fl.NoNaN64 (FP.ddiv (FP.dneg u4) (4611686018427387904 : UInt64))) (hv74 : (FP.dadd r59 FP.dconst1) = r74) (hn74 : Jvm.Free.Fl.NoNaN64 (FP.dadd r59 FP.dconst1)) (hv77 : (FP.ddiv r74 u3) = r77) (hn77 : Jvm.Free.Fl.NoNaN64 (FP.ddiv r74 u3)) (hv90 : (FP.dsub r68 r77) = r90) (hn90 : Jvm.Free.Fl.NoNaN64 (FP.dsub r68 r77)) (hv93 : (FP.ddiv r90 u3) = r93) (hn93 : Jvm.Free.Fl.NoNaN64 (FP.ddiv r90 u3)) :
    MetFree l (⟨"dev/tidemark/usage/WindowQueue", "approximateResponse", "(DDDD)Ldev/tidemark/usage/WindowQueue$Response;"⟩ : MethodName) (head1 (Jvm.Cond.code (⟨"dev/tidemark/usage/WindowQueue", "approximateResponse", "(DDDD)Ldev/tidemark/usage/WindowQueue$Response;"⟩ : MethodName) prog_66_method_7_code 16 (some (.object "dev/tidemark/usage/WindowQueue$Response")) :: ws) ({ frames := 3, cells := 1, slots := 2, locals := 41 } : Room)) (fun a U => a = #[(.double u1), (.double u2), (.double u3), (.double u4)] ∧ Z.Warmed39 U.vm ∧ U.heap = h0) (fun _ _ _ _ _ => True) (fun _ U o U' => ∃ v L, o = .returned v ∧ Q1 Z r77 r93 h0 n0 v U'.heap L ∧ FrameEnd U o U' L ({ frames := 3, cells := 1, slots := 2, locals := 41 } : Room).cells ({ frames := 3, cells := 1, slots := 2, locals := 41 } : Room).slots) := by
  refine MetFree.of_bodySF (plainFor_of_name pn_1) hisR ?_
  intro p e s m args below meth c s₁ Bd hml0 hP hK
  obtain ⟨rfl, hZ, hh⟩ := hP
  have hx := Bd.exec
  have hby := Bd.bytes
  have hml : c.maxLocals = 16 := hml0
  have hown : s.vm.findClass "dev/tidemark/usage/WindowQueue" = some m.cls := findClass_of_methodNamed Bd.named
  have hnm := (name_of_methodNamed Bd.named Bd.method).1
  have X0 : Stand p l e ({ frames := 3, cells := 1, slots := 2, locals := 41 } : Room) s m #[(.double u1), (.double u2), (.double u3), (.double u4)] below meth c s₁ [] 0 0 := Stand.of_body Bd
  have e0 : s₁.heap = h0 := by rw [← hh, Bd.state]; rfl
  have N0 := Fr.nil n0
  have pre0 : ∀ t, Steps p.tables e below (s₁.setTop (mkF m 0 #[.val (.double u1), .second, .val (.double u2), .second, .val (.double u3), .second, .val (.double u4), .second, .unset, .unset, .unset, .unset, .unset, .unset, .unset, .unset] [])) t → Steps p.tables e below (s₁.setTop (entryFrame m #[(.double u1), (.double u2), (.double u3), (.double u4)] 16)) t := fun t k => castTop (ef_1 m u1 u2 u3 u4) k
  obtain ⟨T5, h5, X5, e5, E5, A5, D5, -, st5⟩ := newO X0 hx hZ hown (hw _ (List.mem_of_getElem? (i := 5) rfl)) (hw _ (List.mem_of_getElem? (i := 6) rfl)) (hw _ (List.mem_of_getElem? (i := 7) rfl)) e0 (g := (mkF m 80 #[.val (.double u1), .second, .val (.double u2), .second, .val (.double u3), .second, .val (.double u4), .second, .val (.double r3), .second, .val (.double r59), .second, .val (.double r68), .second, .val (.double r77), .second] [])) rfl (hb hby d1_80) (by decide) (by decide)
  obtain ⟨b5, g5⟩ : ∃ z, z = h0.size := ⟨_, rfl⟩
  rw [← g5] at A5 D5 st5
  have F_time_b5 : Fld Z h5 b5 "dev/tidemark/usage/WindowQueue$Response" "time" "D" (.double (0 : UInt64)) := D5 (Or.inr (hw _ (List.mem_of_getElem? (i := 20) rfl))) (ty := .double) (by decide)
  have F_slope_b5 : Fld Z h5 b5 "dev/tidemark/usage/WindowQueue$Response" "slope" "D" (.double (0 : UInt64)) := D5 (Or.inr (hw _ (List.mem_of_getElem? (i := 22) rfl))) (ty := .double) (by decide)
  have E_b5 := A5
  have g_b5 : n0 ≤ b5 := Nat.le_trans Z0 (Nat.le_of_eq g5.symm)
  have sz_b5 : h0.size ≤ b5 := (Nat.le_trans (Keep.refl h0 []).1 (Nat.le_of_eq g5.symm))
  have K5 : Keep h0 h5 [] := (Keep.refl h0 []).ext E5
  obtain ⟨_, _, ⟨T6, L6, k6, n6⟩, -, X6, ⟨Lc6, hQ6, l6, y6, z6⟩, st6⟩ := X5.specialBack hx (y := (⟨"dev/tidemark/usage/WindowQueue$Response", "<init>", "(DD)V"⟩ : MethodName)) rfl hown (mvT hZ (hw _ (List.mem_of_getElem? (i := 8) rfl))) (mvT hZ (hw _ (List.mem_of_getElem? (i := 9) rfl))) (mvT hZ (hw _ (List.mem_of_getElem? (i := 10) rfl))) (by decide) (backOf (W := 1) (rm2 l Z a0 hw [] b5 r77 r93 _ _ h5 n0 (Nat.le_trans Z0 E5.1) E_b5 F_time_b5 g_b5 F_slope_b5) hZ (hw _ (List.mem_of_getElem? (i := 10) rfl)) (hw _ (List.mem_of_getElem? (i := 7) rfl)) (by decide) (by decide)) (g := (mkF m 94 #[.val (.double u1), .second, .val (.double u2), .second, .val (.double u3), .second, .val (.double u4), .second, .val (.double r3), .second, .val (.double r59), .second, .val (.double r68), .second, .val (.double r77), .second] [(.double r93), (.double r77), (.ref b5), (.ref b5)])) rfl (by rw [hml]; rfl) (Steps.refl _) (a := b5) (argsL := [(.double r77), (.double r93)]) (rest := [(.ref b5)]) (lenOf pd_1_1 rfl) rfl (by show 2 * 0 + _ ≤ _; exact Nat.le_of_eq rfl) (hb hby d1_94) (fun _ _ => ⟨rfl, e5, (by decide : 1 + 0 ≤ _), (by decide : 2 + 0 ≤ _)⟩)
  dsimp only [Pt.U, Pt.locs, Pt.cells, Pt.slots] at X6 l6 y6 z6 st6 hQ6
  subst l6 y6 z6
  obtain ⟨rfl, N6q, K6c, E6, Ft6, Fs6⟩ := hQ6
  have N6 := Fr.app N0 N6q
  obtain ⟨fs, hr, hrun, hended, hW, hsame⟩ := X6.leave (v := some (.ref b5)) (fun h => by rw [Bd.returns] at h; cases h)
  refine ⟨_, _, pre0 _ ?_, hrun, hended, _, _, rfl, ?_, ⟨_, rfl⟩, hW, hsame.mono (by decide) (by decide)⟩
  · show Steps p.tables e below (s₁.setTop (mkF m 0 #[.val (.double u1), .second, .val (.double u2), .second, .val (.double u3), .second, .val (.double u4), .second, .unset, .unset, .unset, .unset, .unset, .unset, .unset, .unset] [])) _
    refine XS.dload X0.here hx rfl (hb hby d1_0) rfl ?_
    show Steps p.tables e below (s₁.setTop (mkF m 2 #[.val (.double u1), .second, .val (.double u2), .second, .val (.double u3), .second, .val (.double u4), .second, .unset, .unset, .unset, .unset, .unset, .unset, .unset, .unset] [(.double u3)])) _
    refine XS.dloadN X0.here hx rfl (hb hby d1_2) rfl ?_
    show Steps p.tables e below (s₁.setTop (mkF m 3 #[.val (.double u1), .second, .val (.double u2), .second, .val (.double u3), .second, .val (.double u4), .second, .unset, .unset, .unset, .unset, .unset, .unset, .unset, .unset] [(.double u2), (.double u3)])) _
    refine XS.dsubS X0.here hx rfl (hb hby d1_3) rfl hn3 hv3 ?_
    show Steps p.tables e below (s₁.setTop (mkF m 4 #[.val (.double u1), .second, .val (.double u2), .second, .val (.double u3), .second, .val (.double u4), .second, .unset, .unset, .unset, .unset, .unset, .unset, .unset, .unset] [(.double r3)])) _
    refine XS.dstore X0.here hx rfl (hb hby d1_4) rfl (l' := #[.val (.double u1), .second, .val (.double u2), .second, .val (.double u3), .second, .val (.double u4), .second, .val (.double r3), .second, .unset, .unset, .unset, .unset, .unset, .unset]) rfl ?_
    show Steps p.tables e below (s₁.setTop (mkF m 6 #[.val (.double u1), .second, .val (.double u2), .second, .val (.double u3), .second, .val (.double u4), .second, .val (.double r3), .second, .unset, .unset, .unset, .unset, .unset, .unset] [])) _
    refine XS.dload X0.here hx rfl (hb hby d1_6) rfl ?_
    show Steps p.tables e below (s₁.setTop (mkF m 8 #[.val (.double u1), .second, .val (.double u2), .second, .val (.double u3), .second, .val (.double u4), .second, .val (.double r3), .second, .unset, .unset, .unset, .unset, .unset, .unset] [(.double r3)])) _
    refine XS.dconst0 X0.here hx rfl (hb hby d1_8) rfl ?_
    show Steps p.tables e below (s₁.setTop (mkF m 9 #[.val (.double u1), .second, .val (.double u2), .second, .val (.double u3), .second, .val (.double u4), .second, .val (.double r3), .second, .unset, .unset, .unset, .unset, .unset, .unset] [(.double FP.dconst0), (.double r3)])) _
    refine XS.dcmpS X0.here hx rfl (hb hby d1_9) rfl rfl ?_
    show Steps p.tables e below (s₁.setTop (mkF m 10 #[.val (.double u1), .second, .val (.double u2), .second, .val (.double u3), .second, .val (.double u4), .second, .val (.double r3), .second, .unset, .unset, .unset, .unset, .unset, .unset] [(.int (cmpValue (FP.dcmp r3 FP.dconst0) .l))])) _
    refine XS.ifNo X0.here hx rfl (hb hby d1_10) rfl ((if0 _ _).trans (tlt hc10).2.2.2) ?_
    show Steps p.tables e below (s₁.setTop (mkF m 13 #[.val (.double u1), .second, .val (.double u2), .second, .val (.double u3), .second, .val (.double u4), .second, .val (.double r3), .second, .unset, .unset, .unset, .unset, .unset, .unset] [])) _
    refine XS.dloadN X0.here hx rfl (hb hby d1_13) rfl ?_
    show Steps p.tables e below (s₁.setTop (mkF m 14 #[.val (.double u1), .second, .val (.double u2), .second, .val (.double u3), .second, .val (.double u4), .second, .val (.double r3), .second, .unset, .unset, .unset, .unset, .unset, .unset] [(.double u1)])) _
    refine XS.dload X0.here hx rfl (hb hby d1_14) rfl ?_
    show Steps p.tables e below (s₁.setTop (mkF m 16 #[.val (.double u1), .second, .val (.double u2), .second, .val (.double u3), .second, .val (.double u4), .second, .val (.double r3), .second, .unset, .unset, .unset, .unset, .unset, .unset] [(.double u4), (.double u1)])) _
    refine XS.dload X0.here hx rfl (hb hby d1_16) rfl ?_
    show Steps p.tables e below (s₁.setTop (mkF m 18 #[.val (.double u1), .second, .val (.double u2), .second, .val (.double u3), .second, .val (.double u4), .second, .val (.double r3), .second, .unset, .unset, .unset, .unset, .unset, .unset] [(.double r3), (.double u4), (.double u1)])) _
    refine XS.dmulS X0.here hx rfl (hb hby d1_18) rfl hn18 hv18 ?_
    show Steps p.tables e below (s₁.setTop (mkF m 19 #[.val (.double u1), .second, .val (.double u2), .second, .val (.double u3), .second, .val (.double u4), .second, .val (.double r3), .second, .unset, .unset, .unset, .unset, .unset, .unset] [(.double r18), (.double u1)])) _
    refine XS.dcmpS X0.here hx rfl (hb hby d1_19) rfl rfl ?_
    show Steps p.tables e below (s₁.setTop (mkF m 20 #[.val (.double u1), .second, .val (.double u2), .second, .val (.double u3), .second, .val (.double u4), .second, .val (.double r3), .second, .unset, .unset, .unset, .unset, .unset, .unset] [(.int (cmpValue (FP.dcmp u1 r18) .g))])) _
    refine XS.ifYes X0.here hx rfl (pc0 := 20) (pc' := 49) rfl (hb hby d1_20) rfl ((if0 _ _).trans (flt hc20).2.1) (by decide) (by decide) ?_
    show Steps p.tables e below (s₁.setTop (mkF m 49 #[.val (.double u1), .second, .val (.double u2), .second, .val (.double u3), .second, .val (.double u4), .second, .val (.double r3), .second, .unset, .unset, .unset, .unset, .unset, .unset] [])) _
    refine XS.dloadN X0.here hx rfl (hb hby d1_49) rfl ?_
    show Steps p.tables e below (s₁.setTop (mkF m 50 #[.val (.double u1), .second, .val (.double u2), .second, .val (.double u3), .second, .val (.double u4), .second, .val (.double r3), .second, .unset, .unset, .unset, .unset, .unset, .unset] [(.double u1)])) _
    refine XS.dload X0.here hx rfl (hb hby d1_50) rfl ?_
    show Steps p.tables e below (s₁.setTop (mkF m 52 #[.val (.double u1), .second, .val (.double u2), .second, .val (.double u3), .second, .val (.double u4), .second, .val (.double r3), .second, .unset, .unset, .unset, .unset, .unset, .unset] [(.double r3), (.double u1)])) _
    refine XS.dload X0.here hx rfl (hb hby d1_52) rfl ?_
    show Steps p.tables e below (s₁.setTop (mkF m 54 #[.val (.double u1), .second, .val (.double u2), .second, .val (.double u3), .second, .val (.double u4), .second, .val (.double r3), .second, .unset, .unset, .unset, .unset, .unset, .unset] [(.double u4), (.double r3), (.double u1)])) _
    refine XS.dmulS X0.here hx rfl (hb hby d1_54) rfl hn54 hv54 ?_
    show Steps p.tables e below (s₁.setTop (mkF m 55 #[.val (.double u1), .second, .val (.double u2), .second, .val (.double u3), .second, .val (.double u4), .second, .val (.double r3), .second, .unset, .unset, .unset, .unset, .unset, .unset] [(.double r54), (.double u1)])) _
    refine X0.ldc2DoubleC hx hown (mvT hZ (hw _ (List.mem_of_getElem? (i := 4) rfl))) (g := (mkF m 55 #[.val (.double u1), .second, .val (.double u2), .second, .val (.double u3), .second, .val (.double u4), .second, .val (.double r3), .second, .unset, .unset, .unset, .unset, .unset, .unset] [(.double r54), (.double u1)])) rfl (hb hby d1_55) _ ?_
    show Steps p.tables e below (s₁.setTop (mkF m 58 #[.val (.double u1), .second, .val (.double u2), .second, .val (.double u3), .second, .val (.double u4), .second, .val (.double r3), .second, .unset, .unset, .unset, .unset, .unset, .unset] [(.double (4611686018427387904 : UInt64)), (.double r54), (.double u1)])) _
    refine XS.ddivS X0.here hx rfl (hb hby d1_58) rfl hn58 hv58 ?_
    show Steps p.tables e below (s₁.setTop (mkF m 59 #[.val (.double u1), .second, .val (.double u2), .second, .val (.double u3), .second, .val (.double u4), .second, .val (.double r3), .second, .unset, .unset, .unset, .unset, .unset, .unset] [(.double r58), (.double u1)])) _
    refine XS.dsubS X0.here hx rfl (hb hby d1_59) rfl hn59 hv59 ?_
    show Steps p.tables e below (s₁.setTop (mkF m 60 #[.val (.double u1), .second, .val (.double u2), .second, .val (.double u3), .second, .val (.double u4), .second, .val (.double r3), .second, .unset, .unset, .unset, .unset, .unset, .unset] [(.double r59)])) _
    refine XS.dstore X0.here hx rfl (hb hby d1_60) rfl (l' := #[.val (.double u1), .second, .val (.double u2), .second, .val (.double u3), .second, .val (.double u4), .second, .val (.double r3), .second, .val (.double r59), .second, .unset, .unset, .unset, .unset]) rfl ?_
    show Steps p.tables e below (s₁.setTop (mkF m 62 #[.val (.double u1), .second, .val (.double u2), .second, .val (.double u3), .second, .val (.double u4), .second, .val (.double r3), .second, .val (.double r59), .second, .unset, .unset, .unset, .unset] [])) _
    refine XS.dload X0.here hx rfl (hb hby d1_62) rfl ?_
    show Steps p.tables e below (s₁.setTop (mkF m 64 #[.val (.double u1), .second, .val (.double u2), .second, .val (.double u3), .second, .val (.double u4), .second, .val (.double r3), .second, .val (.double r59), .second, .unset, .unset, .unset, .unset] [(.double u4)])) _
    refine XS.dnegS X0.here hx rfl (hb hby d1_64) rfl rfl ?_
    show Steps p.tables e below (s₁.setTop (mkF m 65 #[.val (.double u1), .second, .val (.double u2), .second, .val (.double u3), .second, .val (.double u4), .second, .val (.double r3), .second, .val (.double r59), .second, .unset, .unset, .unset, .unset] [(.double (FP.dneg u4))])) _
    refine X0.ldc2DoubleC hx hown (mvT hZ (hw _ (List.mem_of_getElem? (i := 4) rfl))) (g := (mkF m 65 #[.val (.double u1), .second, .val (.double u2), .second, .val (.double u3), .second, .val (.double u4), .second, .val (.double r3), .second, .val (.double r59), .second, .unset, .unset, .unset, .unset] [(.double (FP.dneg u4))])) rfl (hb hby d1_65) _ ?_
    show Steps p.tables e below (s₁.setTop (mkF m 68 #[.val (.double u1), .second, .val (.double u2), .second, .val (.double u3), .second, .val (.double u4), .second, .val (.double r3), .second, .val (.double r59), .second, .unset, .unset, .unset, .unset] [(.double (4611686018427387904 : UInt64)), (.double (FP.dneg u4))])) _
    refine XS.ddivS X0.here hx rfl (hb hby d1_68) rfl hn68 hv68 ?_
    show Steps p.tables e below (s₁.setTop (mkF m 69 #[.val (.double u1), .second, .val (.double u2), .second, .val (.double u3), .second, .val (.double u4), .second, .val (.double r3), .second, .val (.double r59), .second, .unset, .unset, .unset, .unset] [(.double r68)])) _
    refine XS.dstore X0.here hx rfl (hb hby d1_69) rfl (l' := #[.val (.double u1), .second, .val (.double u2), .second, .val (.double u3), .second, .val (.double u4), .second, .val (.double r3), .second, .val (.double r59), .second, .val (.double r68), .second, .unset, .unset]) rfl ?_
    show Steps p.tables e below (s₁.setTop (mkF m 71 #[.val (.double u1), .second, .val (.double u2), .second, .val (.double u3), .second, .val (.double u4), .second, .val (.double r3), .second, .val (.double r59), .second, .val (.double r68), .second, .unset, .unset] [])) _
    refine XS.dload X0.here hx rfl (hb hby d1_71) rfl ?_
    show Steps p.tables e below (s₁.setTop (mkF m 73 #[.val (.double u1), .second, .val (.double u2), .second, .val (.double u3), .second, .val (.double u4), .second, .val (.double r3), .second, .val (.double r59), .second, .val (.double r68), .second, .unset, .unset] [(.double r59)])) _
    refine XS.dconst1 X0.here hx rfl (hb hby d1_73) rfl ?_
    show Steps p.tables e below (s₁.setTop (mkF m 74 #[.val (.double u1), .second, .val (.double u2), .second, .val (.double u3), .second, .val (.double u4), .second, .val (.double r3), .second, .val (.double r59), .second, .val (.double r68), .second, .unset, .unset] [(.double FP.dconst1), (.double r59)])) _
    refine XS.daddS X0.here hx rfl (hb hby d1_74) rfl hn74 hv74 ?_
    show Steps p.tables e below (s₁.setTop (mkF m 75 #[.val (.double u1), .second, .val (.double u2), .second, .val (.double u3), .second, .val (.double u4), .second, .val (.double r3), .second, .val (.double r59), .second, .val (.double r68), .second, .unset, .unset] [(.double r74)])) _
    refine XS.dload X0.here hx rfl (hb hby d1_75) rfl ?_
    show Steps p.tables e below (s₁.setTop (mkF m 77 #[.val (.double u1), .second, .val (.double u2), .second, .val (.double u3), .second, .val (.double u4), .second, .val (.double r3), .second, .val (.double r59), .second, .val (.double r68), .second, .unset, .unset] [(.double u3), (.double r74)])) _
    refine XS.ddivS X0.here hx rfl (hb hby d1_77) rfl hn77 hv77 ?_
    show Steps p.tables e below (s₁.setTop (mkF m 78 #[.val (.double u1), .second, .val (.double u2), .second, .val (.double u3), .second, .val (.double u4), .second, .val (.double r3), .second, .val (.double r59), .second, .val (.double r68), .second, .unset, .unset] [(.double r77)])) _
    refine XS.dstore X0.here hx rfl (hb hby d1_78) rfl (l' := #[.val (.double u1), .second, .val (.double u2), .second, .val (.double u3), .second, .val (.double u4), .second, .val (.double r3), .second, .val (.double r59), .second, .val (.double r68), .second, .val (.double r77), .second]) rfl ?_
    show Steps p.tables e below (s₁.setTop (mkF m 80 #[.val (.double u1), .second, .val (.double u2), .second, .val (.double u3), .second, .val (.double u4), .second, .val (.double r3), .second, .val (.double r59), .second, .val (.double r68), .second, .val (.double r77), .second] [])) _
    refine st5 _ ?_
    show Steps p.tables e below (T5.setTop (mkF m 83 #[.val (.double u1), .second, .val (.double u2), .second, .val (.double u3), .second, .val (.double u4), .second, .val (.double r3), .second, .val (.double r59), .second, .val (.double r68), .second, .val (.double r77), .second] [(.ref b5)])) _
    refine XS.dup X5.here hx rfl (hb hby d1_83) rfl rfl ?_
    show Steps p.tables e below (T5.setTop (mkF m 84 #[.val (.double u1), .second, .val (.double u2), .second, .val (.double u3), .second, .val (.double u4), .second, .val (.double r3), .second, .val (.double r59), .second, .val (.double r68), .second, .val (.double r77), .second] [(.ref b5), (.ref b5)])) _
    refine XS.dload X5.here hx rfl (hb hby d1_84) rfl ?_
    show Steps p.tables e below (T5.setTop (mkF m 86 #[.val (.double u1), .second, .val (.double u2), .second, .val (.double u3), .second, .val (.double u4), .second, .val (.double r3), .second, .val (.double r59), .second, .val (.double r68), .second, .val (.double r77), .second] [(.double r77), (.ref b5), (.ref b5)])) _
    refine XS.dload X5.here hx rfl (hb hby d1_86) rfl ?_
    show Steps p.tables e below (T5.setTop (mkF m 88 #[.val (.double u1), .second, .val (.double u2), .second, .val (.double u3), .second, .val (.double u4), .second, .val (.double r3), .second, .val (.double r59), .second, .val (.double r68), .second, .val (.double r77), .second] [(.double r68), (.double r77), (.ref b5), (.ref b5)])) _
    refine XS.dload X5.here hx rfl (hb hby d1_88) rfl ?_
    show Steps p.tables e below (T5.setTop (mkF m 90 #[.val (.double u1), .second, .val (.double u2), .second, .val (.double u3), .second, .val (.double u4), .second, .val (.double r3), .second, .val (.double r59), .second, .val (.double r68), .second, .val (.double r77), .second] [(.double r77), (.double r68), (.double r77), (.ref b5), (.ref b5)])) _
    refine XS.dsubS X5.here hx rfl (hb hby d1_90) rfl hn90 hv90 ?_
    show Steps p.tables e below (T5.setTop (mkF m 91 #[.val (.double u1), .second, .val (.double u2), .second, .val (.double u3), .second, .val (.double u4), .second, .val (.double r3), .second, .val (.double r59), .second, .val (.double r68), .second, .val (.double r77), .second] [(.double r90), (.double r77), (.ref b5), (.ref b5)])) _
    refine XS.dload X5.here hx rfl (hb hby d1_91) rfl ?_
    show Steps p.tables e below (T5.setTop (mkF m 93 #[.val (.double u1), .second, .val (.double u2), .second, .val (.double u3), .second, .val (.double u4), .second, .val (.double r3), .second, .val (.double r59), .second, .val (.double r68), .second, .val (.double r77), .second] [(.double u3), (.double r90), (.double r77), (.ref b5), (.ref b5)])) _
    refine XS.ddivS X5.here hx rfl (hb hby d1_93) rfl hn93 hv93 ?_
    show Steps p.tables e below (T5.setTop (mkF m 94 #[.val (.double u1), .second, .val (.double u2), .second, .val (.double u3), .second, .val (.double u4), .second, .val (.double r3), .second, .val (.double r59), .second, .val (.double r68), .second, .val (.double r77), .second] [(.double r93), (.double r77), (.ref b5), (.ref b5)])) _
    refine st6.trans ?_
    show Steps p.tables e below (T6.setTop (mkF m 97 #[.val (.double u1), .second, .val (.double u2), .second, .val (.double u3), .second, .val (.double u4), .second, .val (.double r3), .second, .val (.double r59), .second, .val (.double r68), .second, .val (.double r77), .second] [(.ref b5)])) _
    exact retOut X6 hx Bd.returns rfl (Or.inr (Or.inr (Or.inr (Or.inr ⟨rfl, rfl, rfl⟩)))) (hb hby d1_97) hr
  · show Q1 Z r77 r93 h0 n0 _ T6.heap _
    exact ⟨b5, rfl, N6, K5.trans K6c (fun x hx => Or.inr (by rw [List.mem_singleton] at hx; subst hx; exact sz_b5)), E6, Ft6, Fs6⟩
theorem d1_23 : decode prog_66_method_7_code 23 = .ok (.dload_n 0, 1) := by decide +kernel
theorem d1_24 : decode prog_66_method_7_code 24 = .ok (.dload_n 0, 1) := by decide +kernel
theorem d1_25 : decode prog_66_method_7_code 25 = .ok (.dmul, 1) := by decide +kernel
theorem d1_26 : decode prog_66_method_7_code 26 = .ok (.ldc2_w 90, 3) := by decide +kernel
theorem d1_29 : decode prog_66_method_7_code 29 = .ok (.dload 6, 2) := by decide +kernel
theorem d1_31 : decode prog_66_method_7_code 31 = .ok (.dmul, 1) := by decide +kernel
theorem d1_32 : decode prog_66_method_7_code 32 = .ok (.dload 8, 2) := by decide +kernel
theorem d1_34 : decode prog_66_method_7_code 34 = .ok (.dmul, 1) := by decide +kernel
theorem d1_35 : decode prog_66_method_7_code 35 = .ok (.ddiv, 1) := by decide +kernel
theorem d1_36 : decode prog_66_method_7_code 36 = .ok (.dstore 10, 2) := by decide +kernel
theorem d1_38 : decode prog_66_method_7_code 38 = .ok (.dload 10, 2) := by decide +kernel
theorem d1_40 : decode prog_66_method_7_code 40 = .ok (.dneg, 1) := by decide +kernel
theorem d1_41 : decode prog_66_method_7_code 41 = .ok (.dload 8, 2) := by decide +kernel
theorem d1_43 : decode prog_66_method_7_code 43 = .ok (.ddiv, 1) := by decide +kernel
theorem d1_44 : decode prog_66_method_7_code 44 = .ok (.dstore 12, 2) := by decide +kernel
theorem d1_46 : decode prog_66_method_7_code 46 = .ok (.goto 25, 3) := by decide +kernel
set_option maxRecDepth 65536 in
set_option maxHeartbeats 40000000 in
theorem rm1_ff (l : Launch) (Z : State) (a0 : Array Value) (hw : ∀ d ∈ tables_1, d.before a0 Z = true) (ws : List Jvm.Cond) (u1 : UInt64) (u2 : UInt64) (u3 : UInt64) (u4 : UInt64) (r3 : UInt64) (r18 : UInt64) (r25 : UInt64) (r31 : UInt64) (r34 : UInt64) (r35 : UInt64) (r43 : UInt64) (r74 : UInt64) (r77 : UInt64) (r90 : UInt64) (r93 : UInt64) (h0 : Heap) (n0 : Nat) (Z0 : n0 ≤ h0.size) (hv3 : (FP.dsub u3 u2) = r3) (hn3 : Jvm.Free.Fl.NoNaN64 (FP.dsub u3 u2)) (hc10 : (0 : Int32) < (cmpValue (FP.dcmp r3 FP.dconst0) .l)) (hv18 : (FP.dmul u4 r3) = r18) (hn18 : Jvm.Free.Fl.NoNaN64 (FP.dmul u4 r3)) (hc20 : (cmpValue (FP.dcmp u1 r18) .g) < (0 : Int32)) (hv25 : (FP.dmul u1 u1) = r25) (hn25 : Jvm.Free.Fl.NoNaN64 (FP.dmul u1 u1)) (hv31 : (FP.dmul (4611686018427387904 : UInt64) u4) = r31) (hn31 : Jvm.Free.Fl.NoNaN64 (FP.dmul (4611686018427387904 : UInt64) u4)) (hv34 : (FP.dmul r31 r3) = r34) (hn34 : Jvm.Free.Fl.NoNaN64 (FP.dmul r31 r3)) (hv35 : (FP.ddiv r25 r34) = r35) (hn35 : Jvm.Free.Fl.NoNaN64 (FP.ddiv r25 r34)) (hv43 : (FP.ddiv (FP.dneg r35) r3) = r43) (hn43 : Jvm.Free.Fl.NoNaN64 (FP.ddiv (FP.dneg r35) r3)) (hv74 : (FP.dadd r35 FP.dconst1) = r74) (hn74 : Jvm.Free.Fl.NoNaN64 (FP.dadd r35 FP.dconst1)) (hv77 : (FP.ddiv r74 u3) = r77) (hn77 : Jvm.Free.Fl.NoNaN64 (FP.ddiv r74 u3)) (hv90 : (FP.dsub r43 r77) = r90) (hn90 : Jvm.Free.Fl.NoNaN64 (FP.dsub r43 r77)) (hv93 : (FP.ddiv r90 u3) = r93) (hn93 : Jvm.Free.Fl.NoNaN64 (FP.ddiv r90 u3)) :
    MetFree l (⟨"dev/tidemark/usage/WindowQueue", "approximateResponse", "(DDDD)Ldev/tidemark/usage/WindowQueue$Response;"⟩ : MethodName) (head1 (Jvm.Cond.code (⟨"dev/tidemark/usage/WindowQueue", "approximateResponse", "(DDDD)Ldev/tidemark/usage/WindowQueue$Response;"⟩ : MethodName) prog_66_method_7_code 16 (some (.object "dev/tidemark/usage/WindowQueue$Response")) :: ws) ({ frames := 3, cells := 1, slots := 2, locals := 41 } : Room)) (fun a U => a = #[(.double u1), (.double u2), (.double u3), (.double u4)] ∧ Z.Warmed39 U.vm ∧ U.heap = h0) (fun _ _ _ _ _ => True) (fun _ U o U' => ∃ v L, o = .returned v ∧ Q1 Z r77 r93 h0 n0 v U'.heap L ∧ FrameEnd U o U' L ({ frames := 3, cells := 1, slots := 2, locals := 41 } : Room).cells ({ frames := 3, cells := 1, slots := 2, locals := 41 } : Room).slots) := by
  refine MetFree.of_bodySF (plainFor_of_name pn_1) hisR ?_
  intro p e s m args below meth c s₁ Bd hml0 hP hK
  obtain ⟨rfl, hZ, hh⟩ := hP
  have hx := Bd.exec
  have hby := Bd.bytes
  have hml : c.maxLocals = 16 := hml0
  have hown : s.vm.findClass "dev/tidemark/usage/WindowQueue" = some m.cls := findClass_of_methodNamed Bd.named
  have hnm := (name_of_methodNamed Bd.named Bd.method).1
  have X0 : Stand p l e ({ frames := 3, cells := 1, slots := 2, locals := 41 } : Room) s m #[(.double u1), (.double u2), (.double u3), (.double u4)] below meth c s₁ [] 0 0 := Stand.of_body Bd
  have e0 : s₁.heap = h0 := by rw [← hh, Bd.state]; rfl
  have N0 := Fr.nil n0
  have pre0 : ∀ t, Steps p.tables e below (s₁.setTop (mkF m 0 #[.val (.double u1), .second, .val (.double u2), .second, .val (.double u3), .second, .val (.double u4), .second, .unset, .unset, .unset, .unset, .unset, .unset, .unset, .unset] [])) t → Steps p.tables e below (s₁.setTop (entryFrame m #[(.double u1), (.double u2), (.double u3), (.double u4)] 16)) t := fun t k => castTop (ef_1 m u1 u2 u3 u4) k
  obtain ⟨T5, h5, X5, e5, E5, A5, D5, -, st5⟩ := newO X0 hx hZ hown (hw _ (List.mem_of_getElem? (i := 5) rfl)) (hw _ (List.mem_of_getElem? (i := 6) rfl)) (hw _ (List.mem_of_getElem? (i := 7) rfl)) e0 (g := (mkF m 80 #[.val (.double u1), .second, .val (.double u2), .second, .val (.double u3), .second, .val (.double u4), .second, .val (.double r3), .second, .val (.double r35), .second, .val (.double r43), .second, .val (.double r77), .second] [])) rfl (hb hby d1_80) (by decide) (by decide)
  obtain ⟨b5, g5⟩ : ∃ z, z = h0.size := ⟨_, rfl⟩
  rw [← g5] at A5 D5 st5
  have F_time_b5 : Fld Z h5 b5 "dev/tidemark/usage/WindowQueue$Response" "time" "D" (.double (0 : UInt64)) := D5 (Or.inr (hw _ (List.mem_of_getElem? (i := 20) rfl))) (ty := .double) (by decide)
  have F_slope_b5 : Fld Z h5 b5 "dev/tidemark/usage/WindowQueue$Response" "slope" "D" (.double (0 : UInt64)) := D5 (Or.inr (hw _ (List.mem_of_getElem? (i := 22) rfl))) (ty := .double) (by decide)
  have E_b5 := A5
  have g_b5 : n0 ≤ b5 := Nat.le_trans Z0 (Nat.le_of_eq g5.symm)
  have sz_b5 : h0.size ≤ b5 := (Nat.le_trans (Keep.refl h0 []).1 (Nat.le_of_eq g5.symm))
  have K5 : Keep h0 h5 [] := (Keep.refl h0 []).ext E5
  obtain ⟨_, _, ⟨T6, L6, k6, n6⟩, -, X6, ⟨Lc6, hQ6, l6, y6, z6⟩, st6⟩ := X5.specialBack hx (y := (⟨"dev/tidemark/usage/WindowQueue$Response", "<init>", "(DD)V"⟩ : MethodName)) rfl hown (mvT hZ (hw _ (List.mem_of_getElem? (i := 8) rfl))) (mvT hZ (hw _ (List.mem_of_getElem? (i := 9) rfl))) (mvT hZ (hw _ (List.mem_of_getElem? (i := 10) rfl))) (by decide) (backOf (W := 1) (rm2 l Z a0 hw [] b5 r77 r93 _ _ h5 n0 (Nat.le_trans Z0 E5.1) E_b5 F_time_b5 g_b5 F_slope_b5) hZ (hw _ (List.mem_of_getElem? (i := 10) rfl)) (hw _ (List.mem_of_getElem? (i := 7) rfl)) (by decide) (by decide)) (g := (mkF m 94 #[.val (.double u1), .second, .val (.double u2), .second, .val (.double u3), .second, .val (.double u4), .second, .val (.double r3), .second, .val (.double r35), .second, .val (.double r43), .second, .val (.double r77), .second] [(.double r93), (.double r77), (.ref b5), (.ref b5)])) rfl (by rw [hml]; rfl) (Steps.refl _) (a := b5) (argsL := [(.double r77), (.double r93)]) (rest := [(.ref b5)]) (lenOf pd_1_1 rfl) rfl (by show 2 * 0 + _ ≤ _; exact Nat.le_of_eq rfl) (hb hby d1_94) (fun _ _ => ⟨rfl, e5, (by decide : 1 + 0 ≤ _), (by decide : 2 + 0 ≤ _)⟩)
  dsimp only [Pt.U, Pt.locs, Pt.cells, Pt.slots] at X6 l6 y6 z6 st6 hQ6
  subst l6 y6 z6
  obtain ⟨rfl, N6q, K6c, E6, Ft6, Fs6⟩ := hQ6
  have N6 := Fr.app N0 N6q
  obtain ⟨fs, hr, hrun, hended, hW, hsame⟩ := X6.leave (v := some (.ref b5)) (fun h => by rw [Bd.returns] at h; cases h)
  refine ⟨_, _, pre0 _ ?_, hrun, hended, _, _, rfl, ?_, ⟨_, rfl⟩, hW, hsame.mono (by decide) (by decide)⟩
  · show Steps p.tables e below (s₁.setTop (mkF m 0 #[.val (.double u1), .second, .val (.double u2), .second, .val (.double u3), .second, .val (.double u4), .second, .unset, .unset, .unset, .unset, .unset, .unset, .unset, .unset] [])) _
    refine XS.dload X0.here hx rfl (hb hby d1_0) rfl ?_
    show Steps p.tables e below (s₁.setTop (mkF m 2 #[.val (.double u1), .second, .val (.double u2), .second, .val (.double u3), .second, .val (.double u4), .second, .unset, .unset, .unset, .unset, .unset, .unset, .unset, .unset] [(.double u3)])) _
    refine XS.dloadN X0.here hx rfl (hb hby d1_2) rfl ?_
    show Steps p.tables e below (s₁.setTop (mkF m 3 #[.val (.double u1), .second, .val (.double u2), .second, .val (.double u3), .second, .val (.double u4), .second, .unset, .unset, .unset, .unset, .unset, .unset, .unset, .unset] [(.double u2), (.double u3)])) _
    refine XS.dsubS X0.here hx rfl (hb hby d1_3) rfl hn3 hv3 ?_
    show Steps p.tables e below (s₁.setTop (mkF m 4 #[.val (.double u1), .second, .val (.double u2), .second, .val (.double u3), .second, .val (.double u4), .second, .unset, .unset, .unset, .unset, .unset, .unset, .unset, .unset] [(.double r3)])) _
    refine XS.dstore X0.here hx rfl (hb hby d1_4) rfl (l' := #[.val (.double u1), .second, .val (.double u2), .second, .val (.double u3), .second, .val (.double u4), .second, .val (.double r3), .second, .unset, .unset, .unset, .unset, .unset, .unset]) rfl ?_
    show Steps p.tables e below (s₁.setTop (mkF m 6 #[.val (.double u1), .second, .val (.double u2), .second, .val (.double u3), .second, .val (.double u4), .second, .val (.double r3), .second, .unset, .unset, .unset, .unset, .unset, .unset] [])) _
    refine XS.dload X0.here hx rfl (hb hby d1_6) rfl ?_
    show Steps p.tables e below (s₁.setTop (mkF m 8 #[.val (.double u1), .second, .val (.double u2), .second, .val (.double u3), .second, .val (.double u4), .second, .val (.double r3), .second, .unset, .unset, .unset, .unset, .unset, .unset] [(.double r3)])) _
    refine XS.dconst0 X0.here hx rfl (hb hby d1_8) rfl ?_
    show Steps p.tables e below (s₁.setTop (mkF m 9 #[.val (.double u1), .second, .val (.double u2), .second, .val (.double u3), .second, .val (.double u4), .second, .val (.double r3), .second, .unset, .unset, .unset, .unset, .unset, .unset] [(.double FP.dconst0), (.double r3)])) _
    refine XS.dcmpS X0.here hx rfl (hb hby d1_9) rfl rfl ?_
    show Steps p.tables e below (s₁.setTop (mkF m 10 #[.val (.double u1), .second, .val (.double u2), .second, .val (.double u3), .second, .val (.double u4), .second, .val (.double r3), .second, .unset, .unset, .unset, .unset, .unset, .unset] [(.int (cmpValue (FP.dcmp r3 FP.dconst0) .l))])) _
    refine XS.ifNo X0.here hx rfl (hb hby d1_10) rfl ((if0 _ _).trans (tlt hc10).2.2.2) ?_
    show Steps p.tables e below (s₁.setTop (mkF m 13 #[.val (.double u1), .second, .val (.double u2), .second, .val (.double u3), .second, .val (.double u4), .second, .val (.double r3), .second, .unset, .unset, .unset, .unset, .unset, .unset] [])) _
    refine XS.dloadN X0.here hx rfl (hb hby d1_13) rfl ?_
    show Steps p.tables e below (s₁.setTop (mkF m 14 #[.val (.double u1), .second, .val (.double u2), .second, .val (.double u3), .second, .val (.double u4), .second, .val (.double r3), .second, .unset, .unset, .unset, .unset, .unset, .unset] [(.double u1)])) _
    refine XS.dload X0.here hx rfl (hb hby d1_14) rfl ?_
    show Steps p.tables e below (s₁.setTop (mkF m 16 #[.val (.double u1), .second, .val (.double u2), .second, .val (.double u3), .second, .val (.double u4), .second, .val (.double r3), .second, .unset, .unset, .unset, .unset, .unset, .unset] [(.double u4), (.double u1)])) _
    refine XS.dload X0.here hx rfl (hb hby d1_16) rfl ?_
    show Steps p.tables e below (s₁.setTop (mkF m 18 #[.val (.double u1), .second, .val (.double u2), .second, .val (.double u3), .second, .val (.double u4), .second, .val (.double r3), .second, .unset, .unset, .unset, .unset, .unset, .unset] [(.double r3), (.double u4), (.double u1)])) _
    refine XS.dmulS X0.here hx rfl (hb hby d1_18) rfl hn18 hv18 ?_
    show Steps p.tables e below (s₁.setTop (mkF m 19 #[.val (.double u1), .second, .val (.double u2), .second, .val (.double u3), .second, .val (.double u4), .second, .val (.double r3), .second, .unset, .unset, .unset, .unset, .unset, .unset] [(.double r18), (.double u1)])) _
    refine XS.dcmpS X0.here hx rfl (hb hby d1_19) rfl rfl ?_
    show Steps p.tables e below (s₁.setTop (mkF m 20 #[.val (.double u1), .second, .val (.double u2), .second, .val (.double u3), .second, .val (.double u4), .second, .val (.double r3), .second, .unset, .unset, .unset, .unset, .unset, .unset] [(.int (cmpValue (FP.dcmp u1 r18) .g))])) _
    refine XS.ifNo X0.here hx rfl (hb hby d1_20) rfl ((if0 _ _).trans (tlt hc20).2.1) ?_
    show Steps p.tables e below (s₁.setTop (mkF m 23 #[.val (.double u1), .second, .val (.double u2), .second, .val (.double u3), .second, .val (.double u4), .second, .val (.double r3), .second, .unset, .unset, .unset, .unset, .unset, .unset] [])) _
    refine XS.dloadN X0.here hx rfl (hb hby d1_23) rfl ?_
    show Steps p.tables e below (s₁.setTop (mkF m 24 #[.val (.double u1), .second, .val (.double u2), .second, .val (.double u3), .second, .val (.double u4), .second, .val (.double r3), .second, .unset, .unset, .unset, .unset, .unset, .unset] [(.double u1)])) _
    refine XS.dloadN X0.here hx rfl (hb hby d1_24) rfl ?_
    show Steps p.tables e below (s₁.setTop (mkF m 25 #[.val (.double u1), .second, .val (.double u2), .second, .val (.double u3), .second, .val (.double u4), .second, .val (.double r3), .second, .unset, .unset, .unset, .unset, .unset, .unset] [(.double u1), (.double u1)])) _
    refine XS.dmulS X0.here hx rfl (hb hby d1_25) rfl hn25 hv25 ?_
    show Steps p.tables e below (s₁.setTop (mkF m 26 #[.val (.double u1), .second, .val (.double u2), .second, .val (.double u3), .second, .val (.double u4), .second, .val (.double r3), .second, .unset, .unset, .unset, .unset, .unset, .unset] [(.double r25)])) _
    refine X0.ldc2DoubleC hx hown (mvT hZ (hw _ (List.mem_of_getElem? (i := 4) rfl))) (g := (mkF m 26 #[.val (.double u1), .second, .val (.double u2), .second, .val (.double u3), .second, .val (.double u4), .second, .val (.double r3), .second, .unset, .unset, .unset, .unset, .unset, .unset] [(.double r25)])) rfl (hb hby d1_26) _ ?_
    show Steps p.tables e below (s₁.setTop (mkF m 29 #[.val (.double u1), .second, .val (.double u2), .second, .val (.double u3), .second, .val (.double u4), .second, .val (.double r3), .second, .unset, .unset, .unset, .unset, .unset, .unset] [(.double (4611686018427387904 : UInt64)), (.double r25)])) _
    refine XS.dload X0.here hx rfl (hb hby d1_29) rfl ?_
    show Steps p.tables e below (s₁.setTop (mkF m 31 #[.val (.double u1), .second, .val (.double u2), .second, .val (.double u3), .second, .val (.double u4), .second, .val (.double r3), .second, .unset, .unset, .unset, .unset, .unset, .unset] [(.double u4), (.double (4611686018427387904 : UInt64)), (.double r25)])) _
    refine XS.dmulS X0.here hx rfl (hb hby d1_31) rfl hn31 hv31 ?_
    show Steps p.tables e below (s₁.setTop (mkF m 32 #[.val (.double u1), .second, .val (.double u2), .second, .val (.double u3), .second, .val (.double u4), .second, .val (.double r3), .second, .unset, .unset, .unset, .unset, .unset, .unset] [(.double r31), (.double r25)])) _
    refine XS.dload X0.here hx rfl (hb hby d1_32) rfl ?_
    show Steps p.tables e below (s₁.setTop (mkF m 34 #[.val (.double u1), .second, .val (.double u2), .second, .val (.double u3), .second, .val (.double u4), .second, .val (.double r3), .second, .unset, .unset, .unset, .unset, .unset, .unset] [(.double r3), (.double r31), (.double r25)])) _
    refine XS.dmulS X0.here hx rfl (hb hby d1_34) rfl hn34 hv34 ?_
    show Steps p.tables e below (s₁.setTop (mkF m 35 #[.val (.double u1), .second, .val (.double u2), .second, .val (.double u3), .second, .val (.double u4), .second, .val (.double r3), .second, .unset, .unset, .unset, .unset, .unset, .unset] [(.double r34), (.double r25)])) _
    refine XS.ddivS X0.here hx rfl (hb hby d1_35) rfl hn35 hv35 ?_
    show Steps p.tables e below (s₁.setTop (mkF m 36 #[.val (.double u1), .second, .val (.double u2), .second, .val (.double u3), .second, .val (.double u4), .second, .val (.double r3), .second, .unset, .unset, .unset, .unset, .unset, .unset] [(.double r35)])) _
    refine XS.dstore X0.here hx rfl (hb hby d1_36) rfl (l' := #[.val (.double u1), .second, .val (.double u2), .second, .val (.double u3), .second, .val (.double u4), .second, .val (.double r3), .second, .val (.double r35), .second, .unset, .unset, .unset, .unset]) rfl ?_
    show Steps p.tables e below (s₁.setTop (mkF m 38 #[.val (.double u1), .second, .val (.double u2), .second, .val (.double u3), .second, .val (.double u4), .second, .val (.double r3), .second, .val (.double r35), .second, .unset, .unset, .unset, .unset] [])) _
    refine XS.dload X0.here hx rfl (hb hby d1_38) rfl ?_
    show Steps p.tables e below (s₁.setTop (mkF m 40 #[.val (.double u1), .second, .val (.double u2), .second, .val (.double u3), .second, .val (.double u4), .second, .val (.double r3), .second, .val (.double r35), .second, .unset, .unset, .unset, .unset] [(.double r35)])) _
    refine XS.dnegS X0.here hx rfl (hb hby d1_40) rfl rfl ?_
    show Steps p.tables e below (s₁.setTop (mkF m 41 #[.val (.double u1), .second, .val (.double u2), .second, .val (.double u3), .second, .val (.double u4), .second, .val (.double r3), .second, .val (.double r35), .second, .unset, .unset, .unset, .unset] [(.double (FP.dneg r35))])) _
    refine XS.dload X0.here hx rfl (hb hby d1_41) rfl ?_
    show Steps p.tables e below (s₁.setTop (mkF m 43 #[.val (.double u1), .second, .val (.double u2), .second, .val (.double u3), .second, .val (.double u4), .second, .val (.double r3), .second, .val (.double r35), .second, .unset, .unset, .unset, .unset] [(.double r3), (.double (FP.dneg r35))])) _
    refine XS.ddivS X0.here hx rfl (hb hby d1_43) rfl hn43 hv43 ?_
    show Steps p.tables e below (s₁.setTop (mkF m 44 #[.val (.double u1), .second, .val (.double u2), .second, .val (.double u3), .second, .val (.double u4), .second, .val (.double r3), .second, .val (.double r35), .second, .unset, .unset, .unset, .unset] [(.double r43)])) _
    refine XS.dstore X0.here hx rfl (hb hby d1_44) rfl (l' := #[.val (.double u1), .second, .val (.double u2), .second, .val (.double u3), .second, .val (.double u4), .second, .val (.double r3), .second, .val (.double r35), .second, .val (.double r43), .second, .unset, .unset]) rfl ?_
    show Steps p.tables e below (s₁.setTop (mkF m 46 #[.val (.double u1), .second, .val (.double u2), .second, .val (.double u3), .second, .val (.double u4), .second, .val (.double r3), .second, .val (.double r35), .second, .val (.double r43), .second, .unset, .unset] [])) _
    refine XS.goto X0.here hx rfl (pc0 := 46) (pc' := 71) rfl (hb hby d1_46) (by decide) (by decide) ?_
    show Steps p.tables e below (s₁.setTop (mkF m 71 #[.val (.double u1), .second, .val (.double u2), .second, .val (.double u3), .second, .val (.double u4), .second, .val (.double r3), .second, .val (.double r35), .second, .val (.double r43), .second, .unset, .unset] [])) _
    refine XS.dload X0.here hx rfl (hb hby d1_71) rfl ?_
    show Steps p.tables e below (s₁.setTop (mkF m 73 #[.val (.double u1), .second, .val (.double u2), .second, .val (.double u3), .second, .val (.double u4), .second, .val (.double r3), .second, .val (.double r35), .second, .val (.double r43), .second, .unset, .unset] [(.double r35)])) _
    refine XS.dconst1 X0.here hx rfl (hb hby d1_73) rfl ?_
    show Steps p.tables e below (s₁.setTop (mkF m 74 #[.val (.double u1), .second, .val (.double u2), .second, .val (.double u3), .second, .val (.double u4), .second, .val (.double r3), .second, .val (.double r35), .second, .val (.double r43), .second, .unset, .unset] [(.double FP.dconst1), (.double r35)])) _
    refine XS.daddS X0.here hx rfl (hb hby d1_74) rfl hn74 hv74 ?_
    show Steps p.tables e below (s₁.setTop (mkF m 75 #[.val (.double u1), .second, .val (.double u2), .second, .val (.double u3), .second, .val (.double u4), .second, .val (.double r3), .second, .val (.double r35), .second, .val (.double r43), .second, .unset, .unset] [(.double r74)])) _
    refine XS.dload X0.here hx rfl (hb hby d1_75) rfl ?_
    show Steps p.tables e below (s₁.setTop (mkF m 77 #[.val (.double u1), .second, .val (.double u2), .second, .val (.double u3), .second, .val (.double u4), .second, .val (.double r3), .second, .val (.double r35), .second, .val (.double r43), .second, .unset, .unset] [(.double u3), (.double r74)])) _
    refine XS.ddivS X0.here hx rfl (hb hby d1_77) rfl hn77 hv77 ?_
    show Steps p.tables e below (s₁.setTop (mkF m 78 #[.val (.double u1), .second, .val (.double u2), .second, .val (.double u3), .second, .val (.double u4), .second, .val (.double r3), .second, .val (.double r35), .second, .val (.double r43), .second, .unset, .unset] [(.double r77)])) _
    refine XS.dstore X0.here hx rfl (hb hby d1_78) rfl (l' := #[.val (.double u1), .second, .val (.double u2), .second, .val (.double u3), .second, .val (.double u4), .second, .val (.double r3), .second, .val (.double r35), .second, .val (.double r43), .second, .val (.double r77), .second]) rfl ?_
    show Steps p.tables e below (s₁.setTop (mkF m 80 #[.val (.double u1), .second, .val (.double u2), .second, .val (.double u3), .second, .val (.double u4), .second, .val (.double r3), .second, .val (.double r35), .second, .val (.double r43), .second, .val (.double r77), .second] [])) _
    refine st5 _ ?_
    show Steps p.tables e below (T5.setTop (mkF m 83 #[.val (.double u1), .second, .val (.double u2), .second, .val (.double u3), .second, .val (.double u4), .second, .val (.double r3), .second, .val (.double r35), .second, .val (.double r43), .second, .val (.double r77), .second] [(.ref b5)])) _
    refine XS.dup X5.here hx rfl (hb hby d1_83) rfl rfl ?_
    show Steps p.tables e below (T5.setTop (mkF m 84 #[.val (.double u1), .second, .val (.double u2), .second, .val (.double u3), .second, .val (.double u4), .second, .val (.double r3), .second, .val (.double r35), .second, .val (.double r43), .second, .val (.double r77), .second] [(.ref b5), (.ref b5)])) _
    refine XS.dload X5.here hx rfl (hb hby d1_84) rfl ?_
    show Steps p.tables e below (T5.setTop (mkF m 86 #[.val (.double u1), .second, .val (.double u2), .second, .val (.double u3), .second, .val (.double u4), .second, .val (.double r3), .second, .val (.double r35), .second, .val (.double r43), .second, .val (.double r77), .second] [(.double r77), (.ref b5), (.ref b5)])) _
    refine XS.dload X5.here hx rfl (hb hby d1_86) rfl ?_
    show Steps p.tables e below (T5.setTop (mkF m 88 #[.val (.double u1), .second, .val (.double u2), .second, .val (.double u3), .second, .val (.double u4), .second, .val (.double r3), .second, .val (.double r35), .second, .val (.double r43), .second, .val (.double r77), .second] [(.double r43), (.double r77), (.ref b5), (.ref b5)])) _
    refine XS.dload X5.here hx rfl (hb hby d1_88) rfl ?_
    show Steps p.tables e below (T5.setTop (mkF m 90 #[.val (.double u1), .second, .val (.double u2), .second, .val (.double u3), .second, .val (.double u4), .second, .val (.double r3), .second, .val (.double r35), .second, .val (.double r43), .second, .val (.double r77), .second] [(.double r77), (.double r43), (.double r77), (.ref b5), (.ref b5)])) _
    refine XS.dsubS X5.here hx rfl (hb hby d1_90) rfl hn90 hv90 ?_
    show Steps p.tables e below (T5.setTop (mkF m 91 #[.val (.double u1), .second, .val (.double u2), .second, .val (.double u3), .second, .val (.double u4), .second, .val (.double r3), .second, .val (.double r35), .second, .val (.double r43), .second, .val (.double r77), .second] [(.double r90), (.double r77), (.ref b5), (.ref b5)])) _
    refine XS.dload X5.here hx rfl (hb hby d1_91) rfl ?_
    show Steps p.tables e below (T5.setTop (mkF m 93 #[.val (.double u1), .second, .val (.double u2), .second, .val (.double u3), .second, .val (.double u4), .second, .val (.double r3), .second, .val (.double r35), .second, .val (.double r43), .second, .val (.double r77), .second] [(.double u3), (.double r90), (.double r77), (.ref b5), (.ref b5)])) _
    refine XS.ddivS X5.here hx rfl (hb hby d1_93) rfl hn93 hv93 ?_
    show Steps p.tables e below (T5.setTop (mkF m 94 #[.val (.double u1), .second, .val (.double u2), .second, .val (.double u3), .second, .val (.double u4), .second, .val (.double r3), .second, .val (.double r35), .second, .val (.double r43), .second, .val (.double r77), .second] [(.double r93), (.double r77), (.ref b5), (.ref b5)])) _
    refine st6.trans ?_
    show Steps p.tables e below (T6.setTop (mkF m 97 #[.val (.double u1), .second, .val (.double u2), .second, .val (.double u3), .second, .val (.double u4), .second, .val (.double r3), .second, .val (.double r35), .second, .val (.double r43), .second, .val (.double r77), .second] [(.ref b5)])) _
    exact retOut X6 hx Bd.returns rfl (Or.inr (Or.inr (Or.inr (Or.inr ⟨rfl, rfl, rfl⟩)))) (hb hby d1_97) hr
  · show Q1 Z r77 r93 h0 n0 _ T6.heap _
    exact ⟨b5, rfl, N6, K5.trans K6c (fun x hx => Or.inr (by rw [List.mem_singleton] at hx; subst hx; exact sz_b5)), E6, Ft6, Fs6⟩
theorem d5_0 : decode prog_67_method_5_code 0 = .ok (.aload_n 0, 1) := by decide +kernel
theorem d5_1 : decode prog_67_method_5_code 1 = .ok (.getfield 7, 3) := by decide +kernel
theorem d5_4 : decode prog_67_method_5_code 4 = .ok (.dreturn, 1) := by decide +kernel
theorem pn_5 : plainName "dev/tidemark/usage/WindowQueue$Response" = true := by first | (simp [plainName, overriddenIn]; done) | decide +kernel
theorem ef_5 (m : MethodId) (x0 : Addr) : entryFrame m #[(.ref x0)] 1 = mkF m 0 #[.val (.ref x0)] [] := by first | (simp [entryFrame, mkF, argsToLocals, Value.category]; done) | rfl
set_option maxRecDepth 65536 in
set_option maxHeartbeats 40000000 in
theorem rm5 (l : Launch) (Z : State) (a0 : Array Value) (hw : ∀ d ∈ tables_1, d.before a0 Z = true) (ws : List Jvm.Cond) (a1 : Addr) (w2 : UInt64) (h0 : Heap) (n0 : Nat) (Z0 : n0 ≤ h0.size) (F_time_a1 : Fld Z h0 a1 "dev/tidemark/usage/WindowQueue$Response" "time" "D" (.double w2)) :
    MetFree l (⟨"dev/tidemark/usage/WindowQueue$Response", "time", "()D"⟩ : MethodName) (head1 (Jvm.Cond.code (⟨"dev/tidemark/usage/WindowQueue$Response", "time", "()D"⟩ : MethodName) prog_67_method_5_code 1 (some .double) :: ws) ({ frames := 0, cells := 0, slots := 0, locals := 0 } : Room)) (fun a U => a = #[(.ref a1)] ∧ Z.Warmed39 U.vm ∧ U.heap = h0) (fun _ _ _ _ _ => True) (fun _ U o U' => ∃ v L, o = .returned v ∧ QP (some (.double w2)) h0 n0 v U'.heap L ∧ FrameEnd U o U' L ({ frames := 0, cells := 0, slots := 0, locals := 0 } : Room).cells ({ frames := 0, cells := 0, slots := 0, locals := 0 } : Room).slots) := by
  refine MetFree.of_bodySF (plainFor_of_name pn_5) hisR ?_
  intro p e s m args below meth c s₁ Bd hml0 hP hK
  obtain ⟨rfl, hZ, hh⟩ := hP
  have hx := Bd.exec
  have hby := Bd.bytes
  have hml : c.maxLocals = 1 := hml0
  have hown : s.vm.findClass "dev/tidemark/usage/WindowQueue$Response" = some m.cls := findClass_of_methodNamed Bd.named
  have hnm := (name_of_methodNamed Bd.named Bd.method).1
  have X0 : Stand p l e ({ frames := 0, cells := 0, slots := 0, locals := 0 } : Room) s m #[(.ref a1)] below meth c s₁ [] 0 0 := Stand.of_body Bd
  have e0 : s₁.heap = h0 := by rw [← hh, Bd.state]; rfl
  have N0 := Fr.nil n0
  have pre0 : ∀ t, Steps p.tables e below (s₁.setTop (mkF m 0 #[.val (.ref a1)] [])) t → Steps p.tables e below (s₁.setTop (entryFrame m #[(.ref a1)] 1)) t := fun t k => castTop (ef_5 m a1) k
  obtain ⟨T3, X3, e3, st3⟩ := getF X0 hx hZ hown (host := "") (Or.inl (hw _ (List.mem_of_getElem? (i := 19) rfl))) Via.refl e0 F_time_a1 (g := (mkF m 1 #[.val (.ref a1)] [(.ref a1)])) rfl rfl (hb hby d5_1)
  obtain ⟨fs, hr, hrun, hended, hW, hsame⟩ := X3.leave (v := some (.double w2)) (fun h => by rw [Bd.returns] at h; cases h)
  refine ⟨_, _, pre0 _ ?_, hrun, hended, _, _, rfl, ?_, ⟨_, rfl⟩, hW, hsame.mono (by decide) (by decide)⟩
  · show Steps p.tables e below (s₁.setTop (mkF m 0 #[.val (.ref a1)] [])) _
    refine XS.aloadN X0.here hx rfl (hb hby d5_0) rfl rfl ?_
    show Steps p.tables e below (s₁.setTop (mkF m 1 #[.val (.ref a1)] [(.ref a1)])) _
    refine st3 _ ?_
    show Steps p.tables e below (T3.setTop (mkF m 4 #[.val (.ref a1)] [(.double w2)])) _
    exact retOut X3 hx Bd.returns rfl (Or.inr (Or.inr (Or.inl ⟨rfl, rfl, _, rfl⟩))) (hb hby d5_4) hr
  · show QP (some (.double w2)) h0 n0 _ T3.heap _
    rw [e3]
    exact ⟨rfl, N0, rfl⟩
theorem d6_0 : decode prog_67_method_6_code 0 = .ok (.aload_n 0, 1) := by decide +kernel
theorem d6_1 : decode prog_67_method_6_code 1 = .ok (.getfield 13, 3) := by decide +kernel
theorem d6_4 : decode prog_67_method_6_code 4 = .ok (.dreturn, 1) := by decide +kernel
theorem pn_6 : plainName "dev/tidemark/usage/WindowQueue$Response" = true := by first | (simp [plainName, overriddenIn]; done) | decide +kernel
theorem ef_6 (m : MethodId) (x0 : Addr) : entryFrame m #[(.ref x0)] 1 = mkF m 0 #[.val (.ref x0)] [] := by first | (simp [entryFrame, mkF, argsToLocals, Value.category]; done) | rfl
set_option maxRecDepth 65536 in
set_option maxHeartbeats 40000000 in
theorem rm6 (l : Launch) (Z : State) (a0 : Array Value) (hw : ∀ d ∈ tables_1, d.before a0 Z = true) (ws : List Jvm.Cond) (a1 : Addr) (w2 : UInt64) (h0 : Heap) (n0 : Nat) (Z0 : n0 ≤ h0.size) (F_slope_a1 : Fld Z h0 a1 "dev/tidemark/usage/WindowQueue$Response" "slope" "D" (.double w2)) :
    MetFree l (⟨"dev/tidemark/usage/WindowQueue$Response", "slope", "()D"⟩ : MethodName) (head1 (Jvm.Cond.code (⟨"dev/tidemark/usage/WindowQueue$Response", "slope", "()D"⟩ : MethodName) prog_67_method_6_code 1 (some .double) :: ws) ({ frames := 0, cells := 0, slots := 0, locals := 0 } : Room)) (fun a U => a = #[(.ref a1)] ∧ Z.Warmed39 U.vm ∧ U.heap = h0) (fun _ _ _ _ _ => True) (fun _ U o U' => ∃ v L, o = .returned v ∧ QP (some (.double w2)) h0 n0 v U'.heap L ∧ FrameEnd U o U' L ({ frames := 0, cells := 0, slots := 0, locals := 0 } : Room).cells ({ frames := 0, cells := 0, slots := 0, locals := 0 } : Room).slots) := by
  refine MetFree.of_bodySF (plainFor_of_name pn_6) hisR ?_
  intro p e s m args below meth c s₁ Bd hml0 hP hK
  obtain ⟨rfl, hZ, hh⟩ := hP
  have hx := Bd.exec
  have hby := Bd.bytes
  have hml : c.maxLocals = 1 := hml0
  have hown : s.vm.findClass "dev/tidemark/usage/WindowQueue$Response" = some m.cls := findClass_of_methodNamed Bd.named
  have hnm := (name_of_methodNamed Bd.named Bd.method).1
  have X0 : Stand p l e ({ frames := 0, cells := 0, slots := 0, locals := 0 } : Room) s m #[(.ref a1)] below meth c s₁ [] 0 0 := Stand.of_body Bd
  have e0 : s₁.heap = h0 := by rw [← hh, Bd.state]; rfl
  have N0 := Fr.nil n0
  have pre0 : ∀ t, Steps p.tables e below (s₁.setTop (mkF m 0 #[.val (.ref a1)] [])) t → Steps p.tables e below (s₁.setTop (entryFrame m #[(.ref a1)] 1)) t := fun t k => castTop (ef_6 m a1) k
  obtain ⟨T3, X3, e3, st3⟩ := getF X0 hx hZ hown (host := "") (Or.inl (hw _ (List.mem_of_getElem? (i := 21) rfl))) Via.refl e0 F_slope_a1 (g := (mkF m 1 #[.val (.ref a1)] [(.ref a1)])) rfl rfl (hb hby d6_1)
  obtain ⟨fs, hr, hrun, hended, hW, hsame⟩ := X3.leave (v := some (.double w2)) (fun h => by rw [Bd.returns] at h; cases h)
  refine ⟨_, _, pre0 _ ?_, hrun, hended, _, _, rfl, ?_, ⟨_, rfl⟩, hW, hsame.mono (by decide) (by decide)⟩
  · show Steps p.tables e below (s₁.setTop (mkF m 0 #[.val (.ref a1)] [])) _
    refine XS.aloadN X0.here hx rfl (hb hby d6_0) rfl rfl ?_
    show Steps p.tables e below (s₁.setTop (mkF m 1 #[.val (.ref a1)] [(.ref a1)])) _
    refine st3 _ ?_
    show Steps p.tables e below (T3.setTop (mkF m 4 #[.val (.ref a1)] [(.double w2)])) _
    exact retOut X3 hx Bd.returns rfl (Or.inr (Or.inr (Or.inl ⟨rfl, rfl, _, rfl⟩))) (hb hby d6_4) hr
  · show QP (some (.double w2)) h0 n0 _ T3.heap _
    rw [e3]
    exact ⟨rfl, N0, rfl⟩
theorem pn_0 : plainName "dev/tidemark/usage/WindowQueueApproximateResponsePinLaw" = true := by first | (simp [plainName, overriddenIn]; done) | decide +kernel
theorem pd_0_0 : parseMethodDescriptor "(DDDD)Ldev/tidemark/usage/WindowQueue$Response;" = some ⟨[.double, .double, .double, .double], some (.object "dev/tidemark/usage/WindowQueue$Response")⟩ := by decide +kernel
theorem pd_0_3 : parseMethodDescriptor "()D" = some ⟨[], some .double⟩ := by decide +kernel
theorem ef_0 (m : MethodId) (x0 : Int32) (x1 : Int32) (x2 : Int32) (x3 : Int32) (x4 : Int32) : entryFrame m #[(.int x0), (.int x1), (.int x2), (.int x3), (.int x4)] maxLocals = mkF m 0 #[.val (.int x0), .val (.int x1), .val (.int x2), .val (.int x3), .val (.int x4), .unset, .unset, .unset, .unset, .unset, .unset, .unset, .unset, .unset, .unset, .unset, .unset, .unset, .unset, .unset, .unset, .unset, .unset, .unset, .unset, .unset, .unset] [] := by first | (simp [entryFrame, mkF, argsToLocals, Value.category, maxLocals]; done) | rfl
set_option maxRecDepth 65536 in
set_option maxHeartbeats 40000000 in
theorem rm0_ftff (l : Launch) (Z : State) (a0 : Array Value) (hw : ∀ d ∈ tables_1, d.before a0 Z = true) (ws : List Jvm.Cond) (p1 : Int32) (p2 : Int32) (p3 : Int32) (p4 : Int32) (p5 : Int32) (kk19 : Int64) (kk30 : Int64) (kk40 : Int64) (kk48 : Int64) (kk261 : Int64) (r278 : UInt64) (r287 : UInt64) (r294 : UInt64) (r298 : UInt64) (tm : UInt64) (sl : UInt64) (h0 : Heap) (n0 : Nat) (Z0 : n0 ≤ h0.size) (hc8 : (p5 &&& (3 : Int32)) = (0 : Int32)) (hk19 : (((p3 &&& (1023 : Int32)) + (1 : Int32)).toInt64) = kk19) (hk30 : (kk19 + ((p2 &&& (1023 : Int32)).toInt64)) = kk30) (hk40 : (((p4 &&& (1023 : Int32)) + (1 : Int32)).toInt64) = kk40) (hk48 : ((p1 &&& (32767 : Int32)).toInt64) = kk48) (hc174 : ¬ ((0 : Int32) < (lcmpW (kk19 - kk30) (0 : Int64)))) (hk261 : ((((2 : Int64) * kk48) - ((kk19 - kk30) * kk40)) + (2 : Int64)) = kk261) (hv278 : (FP.ddiv (FP.l2d (-kk40)) (4611686018427387904 : UInt64)) = r278) (hn278 : Jvm.Free.Fl.NoNaN64 (FP.ddiv (FP.l2d (-kk40)) (4611686018427387904 : UInt64))) (hv287 : (FP.ddiv (FP.l2d kk261) (FP.l2d ((2 : Int64) * kk19))) = r287) (hn287 : Jvm.Free.Fl.NoNaN64 (FP.ddiv (FP.l2d kk261) (FP.l2d ((2 : Int64) * kk19)))) (hv294 : (FP.dsub r278 r287) = r294) (hn294 : Jvm.Free.Fl.NoNaN64 (FP.dsub r278 r287)) (hv298 : (FP.ddiv r294 (FP.l2d kk19)) = r298) (hn298 : Jvm.Free.Fl.NoNaN64 (FP.ddiv r294 (FP.l2d kk19))) (hq1 : (cmpValue (FP.dcmp tm r287) .l) = (0 : Int32)) (hq2 : (cmpValue (FP.dcmp sl r298) .l) = (0 : Int32)) (hC : MetFree l (⟨"dev/tidemark/usage/WindowQueue", "approximateResponse", "(DDDD)Ldev/tidemark/usage/WindowQueue$Response;"⟩ : MethodName) (head1 (Jvm.Cond.code (⟨"dev/tidemark/usage/WindowQueue", "approximateResponse", "(DDDD)Ldev/tidemark/usage/WindowQueue$Response;"⟩ : MethodName) prog_66_method_7_code 16 (some (.object "dev/tidemark/usage/WindowQueue$Response")) :: []) ({ frames := 3, cells := 1, slots := 2, locals := 41 } : Room)) (fun a U => a = #[(.double (FP.l2d kk48)), (.double (FP.l2d kk30)), (.double (FP.l2d kk19)), (.double (FP.l2d kk40))] ∧ Z.Warmed39 U.vm ∧ U.heap = h0) (fun _ _ _ _ _ => True) (fun _ U o U' => ∃ v L, o = .returned v ∧ Q1 Z tm sl h0 n0 v U'.heap L ∧ FrameEnd U o U' L ({ frames := 3, cells := 1, slots := 2, locals := 41 } : Room).cells ({ frames := 3, cells := 1, slots := 2, locals := 41 } : Room).slots)) :
    MetFree l x (head1 (Jvm.Cond.code x code maxLocals ret :: ws) room_1) (fun a U => a = #[(.int p1), (.int p2), (.int p3), (.int p4), (.int p5)] ∧ Z.Warmed39 U.vm ∧ U.heap = h0) (fun _ _ _ _ _ => True) (fun _ U o U' => ∃ v L, o = .returned v ∧ QL n0 v U'.heap L ∧ FrameEnd U o U' L room_1.cells room_1.slots) := by
  refine MetFree.of_bodySF (plainFor_of_name pn_0) hisR ?_
  intro p e s m args below meth c s₁ Bd hml0 hP hK
  obtain ⟨rfl, hZ, hh⟩ := hP
  have hx := Bd.exec
  have hby := Bd.bytes
  have hml : c.maxLocals = 27 := hml0
  have hown : s.vm.findClass "dev/tidemark/usage/WindowQueueApproximateResponsePinLaw" = some m.cls := findClass_of_methodNamed Bd.named
  have hnm := (name_of_methodNamed Bd.named Bd.method).1
  have X0 : Stand p l e room_1 s m #[(.int p1), (.int p2), (.int p3), (.int p4), (.int p5)] below meth c s₁ [] 0 0 := Stand.of_body Bd
  have e0 : s₁.heap = h0 := by rw [← hh, Bd.state]; rfl
  have N0 := Fr.nil n0
  have pre0 : ∀ t, Steps p.tables e below (s₁.setTop (mkF m 0 #[.val (.int p1), .val (.int p2), .val (.int p3), .val (.int p4), .val (.int p5), .unset, .unset, .unset, .unset, .unset, .unset, .unset, .unset, .unset, .unset, .unset, .unset, .unset, .unset, .unset, .unset, .unset, .unset, .unset, .unset, .unset, .unset] [])) t → Steps p.tables e below (s₁.setTop (entryFrame m #[(.int p1), (.int p2), (.int p3), (.int p4), (.int p5)] maxLocals)) t := fun t k => castTop (ef_0 m p1 p2 p3 p4 p5) k
  obtain ⟨_, _, ⟨T6, L6, k6, n6⟩, -, X6, ⟨Lc6, hQ6, l6, y6, z6⟩, st6⟩ := Jvm.LawKit.callS X0 hx (y := (⟨"dev/tidemark/usage/WindowQueue", "approximateResponse", "(DDDD)Ldev/tidemark/usage/WindowQueue$Response;"⟩ : MethodName)) hown (mvT hZ (hw _ (List.mem_of_getElem? (i := 0) rfl))) (mvT hZ (hw _ (List.mem_of_getElem? (i := 1) rfl))) (mvT hZ (hw _ (List.mem_of_getElem? (i := 2) rfl))) (mvT hZ (hw _ (List.mem_of_getElem? (i := 3) rfl))) (by decide) (backOf (W := 0) hC hZ (hw _ (List.mem_of_getElem? (i := 3) rfl)) (hw _ (List.mem_of_getElem? (i := 2) rfl)) (by decide) (by decide)) (g := (mkF m 165 #[.val (.int p1), .val (.int p2), .val (.int p3), .val (.int p4), .val (.int p5), .val (.int (p5 &&& (3 : Int32))), .val (.long kk48), .second, .val (.long kk30), .second, .val (.long kk19), .second, .val (.long kk40), .second, .val (.long (kk19 - kk30)), .second, .unset, .unset, .unset, .unset, .unset, .unset, .unset, .unset, .unset, .unset, .unset] [(.double (FP.l2d kk40)), (.double (FP.l2d kk19)), (.double (FP.l2d kk30)), (.double (FP.l2d kk48))])) rfl (by rw [hml]; rfl) (argsL := [(.double (FP.l2d kk48)), (.double (FP.l2d kk30)), (.double (FP.l2d kk19)), (.double (FP.l2d kk40))]) (rest := []) (lenOf pd_0_0 rfl) rfl (by show 2 * 0 + _ ≤ _; exact Nat.le_of_eq rfl) (hb hby at_165) (fun _ _ => ⟨rfl, e0, (by decide : 0 + 1 ≤ _), (by decide : 0 + 2 ≤ _)⟩)
  dsimp only [Pt.U, Pt.locs, Pt.cells, Pt.slots] at X6 l6 y6 z6 st6 hQ6
  subst l6 y6 z6
  obtain ⟨bR, rfl, N6q, K6c, E6, Ft6, Fs6⟩ := hQ6
  have Z6 : n0 ≤ T6.heap.size := Nat.le_trans Z0 K6c.1
  have N6 := Fr.app N0 N6q
  obtain ⟨cq7, kq7, q7a, q7b, q7c⟩ := isOf hZ rfl (E6.keep (Keep.refl _ []))
  obtain ⟨_, _, ⟨T7, L7, k7, n7⟩, -, X7, ⟨Lc7, hQ7, l7, y7, z7⟩, st7⟩ := X6.virtualBack hx (y := (⟨"dev/tidemark/usage/WindowQueue$Response", "time", "()D"⟩ : MethodName)) (z := (⟨"dev/tidemark/usage/WindowQueue$Response", "time", "()D"⟩ : MethodName)) hown (mvT hZ (hw _ (List.mem_of_getElem? (i := 25) rfl))) (mvT hZ (hw _ (List.mem_of_getElem? (i := 26) rfl))) (notFace_of_selects (args := #[]) (mvT hZ (hw _ (List.mem_of_getElem? (i := 28) rfl)))) (mvT hZ (hw _ (List.mem_of_getElem? (i := 28) rfl))) (mvT hZ (hw _ (List.mem_of_getElem? (i := 27) rfl))) (by decide) (backOf (W := 0) (rm5 l Z a0 hw [] bR tm T6.heap n0 Z6 Ft6) hZ (hw _ (List.mem_of_getElem? (i := 29) rfl)) (hw _ (List.mem_of_getElem? (i := 7) rfl)) (by decide) (by decide)) q7a q7c (g := (mkF m 303 #[.val (.int p1), .val (.int p2), .val (.int p3), .val (.int p4), .val (.int p5), .val (.int (p5 &&& (3 : Int32))), .val (.long kk48), .second, .val (.long kk30), .second, .val (.long kk19), .second, .val (.long kk40), .second, .val (.long (kk19 - kk30)), .second, .val (.ref bR), .val (.long kk261), .second, .val (.long ((2 : Int64) * kk19)), .second, .val (.double r278), .second, .val (.double r287), .second, .val (.double r298), .second] [(.ref bR)])) rfl (by rw [hml]; rfl) (Steps.refl _) (argsL := []) (rest := []) (lenOf pd_0_3 rfl) rfl (by show 2 * 0 + _ ≤ _; exact Nat.le_of_eq rfl) (hb hby at_303) (fun _ _ => ⟨rfl, rfl, (by decide : 1 + 0 ≤ _), (by decide : 2 + 0 ≤ _)⟩)
  dsimp only [Pt.U, Pt.locs, Pt.cells, Pt.slots] at X7 l7 y7 z7 st7 hQ7
  subst l7 y7 z7
  obtain ⟨rfl, N7q, eh7⟩ := hQ7
  have K7c : Keep T6.heap T7.heap [] := by rw [eh7]; exact Keep.refl _ _
  have Z7 : n0 ≤ T7.heap.size := Nat.le_trans Z6 K7c.1
  have N7 := Fr.app N6 N7q
  obtain ⟨cq8, kq8, q8a, q8b, q8c⟩ := isOf hZ rfl ((E6.keep (Keep.refl _ [])).keep K7c)
  obtain ⟨_, _, ⟨T8, L8, k8, n8⟩, -, X8, ⟨Lc8, hQ8, l8, y8, z8⟩, st8⟩ := X7.virtualBack hx (y := (⟨"dev/tidemark/usage/WindowQueue$Response", "slope", "()D"⟩ : MethodName)) (z := (⟨"dev/tidemark/usage/WindowQueue$Response", "slope", "()D"⟩ : MethodName)) hown (mvT hZ (hw _ (List.mem_of_getElem? (i := 30) rfl))) (mvT hZ (hw _ (List.mem_of_getElem? (i := 31) rfl))) (notFace_of_selects (args := #[]) (mvT hZ (hw _ (List.mem_of_getElem? (i := 33) rfl)))) (mvT hZ (hw _ (List.mem_of_getElem? (i := 33) rfl))) (mvT hZ (hw _ (List.mem_of_getElem? (i := 32) rfl))) (by decide) (backOf (W := 0) (rm6 l Z a0 hw [] bR sl T7.heap n0 Z7 (Fs6.keep K7c (by simp))) hZ (hw _ (List.mem_of_getElem? (i := 34) rfl)) (hw _ (List.mem_of_getElem? (i := 7) rfl)) (by decide) (by decide)) q8a q8c (g := (mkF m 314 #[.val (.int p1), .val (.int p2), .val (.int p3), .val (.int p4), .val (.int p5), .val (.int (p5 &&& (3 : Int32))), .val (.long kk48), .second, .val (.long kk30), .second, .val (.long kk19), .second, .val (.long kk40), .second, .val (.long (kk19 - kk30)), .second, .val (.ref bR), .val (.long kk261), .second, .val (.long ((2 : Int64) * kk19)), .second, .val (.double r278), .second, .val (.double r287), .second, .val (.double r298), .second] [(.ref bR)])) rfl (by rw [hml]; rfl) (Steps.refl _) (argsL := []) (rest := []) (lenOf pd_0_3 rfl) rfl (by show 2 * 0 + _ ≤ _; exact Nat.le_of_eq rfl) (hb hby at_314) (fun _ _ => ⟨rfl, rfl, (by decide : 1 + 0 ≤ _), (by decide : 2 + 0 ≤ _)⟩)
  dsimp only [Pt.U, Pt.locs, Pt.cells, Pt.slots] at X8 l8 y8 z8 st8 hQ8
  subst l8 y8 z8
  obtain ⟨rfl, N8q, eh8⟩ := hQ8
  have N8 := Fr.app N7 N8q
  obtain ⟨fs, hr, hrun, hended, hW, hsame⟩ := X8.leave (v := some (.int (1 : Int32))) (fun h => by rw [Bd.returns] at h; cases h)
  refine ⟨_, _, pre0 _ ?_, hrun, hended, _, _, rfl, ?_, ⟨_, rfl⟩, hW, hsame.mono (by decide) (by decide)⟩
  · show Steps p.tables e below (s₁.setTop (mkF m 0 #[.val (.int p1), .val (.int p2), .val (.int p3), .val (.int p4), .val (.int p5), .unset, .unset, .unset, .unset, .unset, .unset, .unset, .unset, .unset, .unset, .unset, .unset, .unset, .unset, .unset, .unset, .unset, .unset, .unset, .unset, .unset, .unset] [])) _
    refine XS.iload X0.here hx rfl (hb hby at_0) rfl ?_
    show Steps p.tables e below (s₁.setTop (mkF m 2 #[.val (.int p1), .val (.int p2), .val (.int p3), .val (.int p4), .val (.int p5), .unset, .unset, .unset, .unset, .unset, .unset, .unset, .unset, .unset, .unset, .unset, .unset, .unset, .unset, .unset, .unset, .unset, .unset, .unset, .unset, .unset, .unset] [(.int p5)])) _
    refine XS.iconst X0.here hx rfl (hb hby at_2) ?_
    show Steps p.tables e below (s₁.setTop (mkF m 3 #[.val (.int p1), .val (.int p2), .val (.int p3), .val (.int p4), .val (.int p5), .unset, .unset, .unset, .unset, .unset, .unset, .unset, .unset, .unset, .unset, .unset, .unset, .unset, .unset, .unset, .unset, .unset, .unset, .unset, .unset, .unset, .unset] [(.int (3 : Int32)), (.int p5)])) _
    refine XS.iand X0.here hx rfl (hb hby at_3) rfl ?_
    show Steps p.tables e below (s₁.setTop (mkF m 4 #[.val (.int p1), .val (.int p2), .val (.int p3), .val (.int p4), .val (.int p5), .unset, .unset, .unset, .unset, .unset, .unset, .unset, .unset, .unset, .unset, .unset, .unset, .unset, .unset, .unset, .unset, .unset, .unset, .unset, .unset, .unset, .unset] [(.int (p5 &&& (3 : Int32)))])) _
    refine XS.istore X0.here hx rfl (hb hby at_4) rfl (l' := #[.val (.int p1), .val (.int p2), .val (.int p3), .val (.int p4), .val (.int p5), .val (.int (p5 &&& (3 : Int32))), .unset, .unset, .unset, .unset, .unset, .unset, .unset, .unset, .unset, .unset, .unset, .unset, .unset, .unset, .unset, .unset, .unset, .unset, .unset, .unset, .unset]) rfl ?_
    show Steps p.tables e below (s₁.setTop (mkF m 6 #[.val (.int p1), .val (.int p2), .val (.int p3), .val (.int p4), .val (.int p5), .val (.int (p5 &&& (3 : Int32))), .unset, .unset, .unset, .unset, .unset, .unset, .unset, .unset, .unset, .unset, .unset, .unset, .unset, .unset, .unset, .unset, .unset, .unset, .unset, .unset, .unset] [])) _
    refine XS.iload X0.here hx rfl (hb hby at_6) rfl ?_
    show Steps p.tables e below (s₁.setTop (mkF m 8 #[.val (.int p1), .val (.int p2), .val (.int p3), .val (.int p4), .val (.int p5), .val (.int (p5 &&& (3 : Int32))), .unset, .unset, .unset, .unset, .unset, .unset, .unset, .unset, .unset, .unset, .unset, .unset, .unset, .unset, .unset, .unset, .unset, .unset, .unset, .unset, .unset] [(.int (p5 &&& (3 : Int32)))])) _
    refine XS.ifNo X0.here hx rfl (hb hby at_8) rfl ((if0 _ _).trans (teq hc8).2) ?_
    show Steps p.tables e below (s₁.setTop (mkF m 11 #[.val (.int p1), .val (.int p2), .val (.int p3), .val (.int p4), .val (.int p5), .val (.int (p5 &&& (3 : Int32))), .unset, .unset, .unset, .unset, .unset, .unset, .unset, .unset, .unset, .unset, .unset, .unset, .unset, .unset, .unset, .unset, .unset, .unset, .unset, .unset, .unset] [])) _
    refine XS.iloadN X0.here hx rfl (hb hby at_11) rfl ?_
    show Steps p.tables e below (s₁.setTop (mkF m 12 #[.val (.int p1), .val (.int p2), .val (.int p3), .val (.int p4), .val (.int p5), .val (.int (p5 &&& (3 : Int32))), .unset, .unset, .unset, .unset, .unset, .unset, .unset, .unset, .unset, .unset, .unset, .unset, .unset, .unset, .unset, .unset, .unset, .unset, .unset, .unset, .unset] [(.int p3)])) _
    refine XS.sipush X0.here hx rfl (hb hby at_12) ?_
    show Steps p.tables e below (s₁.setTop (mkF m 15 #[.val (.int p1), .val (.int p2), .val (.int p3), .val (.int p4), .val (.int p5), .val (.int (p5 &&& (3 : Int32))), .unset, .unset, .unset, .unset, .unset, .unset, .unset, .unset, .unset, .unset, .unset, .unset, .unset, .unset, .unset, .unset, .unset, .unset, .unset, .unset, .unset] [(.int (1023 : Int32)), (.int p3)])) _
    refine XS.iand X0.here hx rfl (hb hby at_15) rfl ?_
    show Steps p.tables e below (s₁.setTop (mkF m 16 #[.val (.int p1), .val (.int p2), .val (.int p3), .val (.int p4), .val (.int p5), .val (.int (p5 &&& (3 : Int32))), .unset, .unset, .unset, .unset, .unset, .unset, .unset, .unset, .unset, .unset, .unset, .unset, .unset, .unset, .unset, .unset, .unset, .unset, .unset, .unset, .unset] [(.int (p3 &&& (1023 : Int32)))])) _
    refine XS.iconst X0.here hx rfl (hb hby at_16) ?_
    show Steps p.tables e below (s₁.setTop (mkF m 17 #[.val (.int p1), .val (.int p2), .val (.int p3), .val (.int p4), .val (.int p5), .val (.int (p5 &&& (3 : Int32))), .unset, .unset, .unset, .unset, .unset, .unset, .unset, .unset, .unset, .unset, .unset, .unset, .unset, .unset, .unset, .unset, .unset, .unset, .unset, .unset, .unset] [(.int (1 : Int32)), (.int (p3 &&& (1023 : Int32)))])) _
    refine XS.iadd X0.here hx rfl (hb hby at_17) rfl ?_
    show Steps p.tables e below (s₁.setTop (mkF m 18 #[.val (.int p1), .val (.int p2), .val (.int p3), .val (.int p4), .val (.int p5), .val (.int (p5 &&& (3 : Int32))), .unset, .unset, .unset, .unset, .unset, .unset, .unset, .unset, .unset, .unset, .unset, .unset, .unset, .unset, .unset, .unset, .unset, .unset, .unset, .unset, .unset] [(.int ((p3 &&& (1023 : Int32)) + (1 : Int32)))])) _
    refine XS.i2l X0.here hx rfl (hb hby at_18) rfl ?_
    show Steps p.tables e below (s₁.setTop (mkF m 19 #[.val (.int p1), .val (.int p2), .val (.int p3), .val (.int p4), .val (.int p5), .val (.int (p5 &&& (3 : Int32))), .unset, .unset, .unset, .unset, .unset, .unset, .unset, .unset, .unset, .unset, .unset, .unset, .unset, .unset, .unset, .unset, .unset, .unset, .unset, .unset, .unset] [(.long (((p3 &&& (1023 : Int32)) + (1 : Int32)).toInt64))])) _
    refine XS.lstore X0.here hx rfl (hb hby at_19) rfl (l' := #[.val (.int p1), .val (.int p2), .val (.int p3), .val (.int p4), .val (.int p5), .val (.int (p5 &&& (3 : Int32))), .unset, .unset, .unset, .unset, .val (.long (((p3 &&& (1023 : Int32)) + (1 : Int32)).toInt64)), .second, .unset, .unset, .unset, .unset, .unset, .unset, .unset, .unset, .unset, .unset, .unset, .unset, .unset, .unset, .unset]) rfl ?_
    show Steps p.tables e below (s₁.setTop (mkF m 21 #[.val (.int p1), .val (.int p2), .val (.int p3), .val (.int p4), .val (.int p5), .val (.int (p5 &&& (3 : Int32))), .unset, .unset, .unset, .unset, .val (.long (((p3 &&& (1023 : Int32)) + (1 : Int32)).toInt64)), .second, .unset, .unset, .unset, .unset, .unset, .unset, .unset, .unset, .unset, .unset, .unset, .unset, .unset, .unset, .unset] [])) _
    rw [hk19]
    show Steps p.tables e below (s₁.setTop (mkF m 21 #[.val (.int p1), .val (.int p2), .val (.int p3), .val (.int p4), .val (.int p5), .val (.int (p5 &&& (3 : Int32))), .unset, .unset, .unset, .unset, .val (.long kk19), .second, .unset, .unset, .unset, .unset, .unset, .unset, .unset, .unset, .unset, .unset, .unset, .unset, .unset, .unset, .unset] [])) _
    refine XS.lload X0.here hx rfl (hb hby at_21) rfl ?_
    show Steps p.tables e below (s₁.setTop (mkF m 23 #[.val (.int p1), .val (.int p2), .val (.int p3), .val (.int p4), .val (.int p5), .val (.int (p5 &&& (3 : Int32))), .unset, .unset, .unset, .unset, .val (.long kk19), .second, .unset, .unset, .unset, .unset, .unset, .unset, .unset, .unset, .unset, .unset, .unset, .unset, .unset, .unset, .unset] [(.long kk19)])) _
    refine XS.iloadN X0.here hx rfl (hb hby at_23) rfl ?_
    show Steps p.tables e below (s₁.setTop (mkF m 24 #[.val (.int p1), .val (.int p2), .val (.int p3), .val (.int p4), .val (.int p5), .val (.int (p5 &&& (3 : Int32))), .unset, .unset, .unset, .unset, .val (.long kk19), .second, .unset, .unset, .unset, .unset, .unset, .unset, .unset, .unset, .unset, .unset, .unset, .unset, .unset, .unset, .unset] [(.int p2), (.long kk19)])) _
    refine XS.sipush X0.here hx rfl (hb hby at_24) ?_
    show Steps p.tables e below (s₁.setTop (mkF m 27 #[.val (.int p1), .val (.int p2), .val (.int p3), .val (.int p4), .val (.int p5), .val (.int (p5 &&& (3 : Int32))), .unset, .unset, .unset, .unset, .val (.long kk19), .second, .unset, .unset, .unset, .unset, .unset, .unset, .unset, .unset, .unset, .unset, .unset, .unset, .unset, .unset, .unset] [(.int (1023 : Int32)), (.int p2), (.long kk19)])) _
    refine XS.iand X0.here hx rfl (hb hby at_27) rfl ?_
    show Steps p.tables e below (s₁.setTop (mkF m 28 #[.val (.int p1), .val (.int p2), .val (.int p3), .val (.int p4), .val (.int p5), .val (.int (p5 &&& (3 : Int32))), .unset, .unset, .unset, .unset, .val (.long kk19), .second, .unset, .unset, .unset, .unset, .unset, .unset, .unset, .unset, .unset, .unset, .unset, .unset, .unset, .unset, .unset] [(.int (p2 &&& (1023 : Int32))), (.long kk19)])) _
    refine XS.i2l X0.here hx rfl (hb hby at_28) rfl ?_
    show Steps p.tables e below (s₁.setTop (mkF m 29 #[.val (.int p1), .val (.int p2), .val (.int p3), .val (.int p4), .val (.int p5), .val (.int (p5 &&& (3 : Int32))), .unset, .unset, .unset, .unset, .val (.long kk19), .second, .unset, .unset, .unset, .unset, .unset, .unset, .unset, .unset, .unset, .unset, .unset, .unset, .unset, .unset, .unset] [(.long ((p2 &&& (1023 : Int32)).toInt64)), (.long kk19)])) _
    refine XS.ladd X0.here hx rfl (hb hby at_29) rfl ?_
    show Steps p.tables e below (s₁.setTop (mkF m 30 #[.val (.int p1), .val (.int p2), .val (.int p3), .val (.int p4), .val (.int p5), .val (.int (p5 &&& (3 : Int32))), .unset, .unset, .unset, .unset, .val (.long kk19), .second, .unset, .unset, .unset, .unset, .unset, .unset, .unset, .unset, .unset, .unset, .unset, .unset, .unset, .unset, .unset] [(.long (kk19 + ((p2 &&& (1023 : Int32)).toInt64)))])) _
    refine XS.lstore X0.here hx rfl (hb hby at_30) rfl (l' := #[.val (.int p1), .val (.int p2), .val (.int p3), .val (.int p4), .val (.int p5), .val (.int (p5 &&& (3 : Int32))), .unset, .unset, .val (.long (kk19 + ((p2 &&& (1023 : Int32)).toInt64))), .second, .val (.long kk19), .second, .unset, .unset, .unset, .unset, .unset, .unset, .unset, .unset, .unset, .unset, .unset, .unset, .unset, .unset, .unset]) rfl ?_
    show Steps p.tables e below (s₁.setTop (mkF m 32 #[.val (.int p1), .val (.int p2), .val (.int p3), .val (.int p4), .val (.int p5), .val (.int (p5 &&& (3 : Int32))), .unset, .unset, .val (.long (kk19 + ((p2 &&& (1023 : Int32)).toInt64))), .second, .val (.long kk19), .second, .unset, .unset, .unset, .unset, .unset, .unset, .unset, .unset, .unset, .unset, .unset, .unset, .unset, .unset, .unset] [])) _
    rw [hk30]
    show Steps p.tables e below (s₁.setTop (mkF m 32 #[.val (.int p1), .val (.int p2), .val (.int p3), .val (.int p4), .val (.int p5), .val (.int (p5 &&& (3 : Int32))), .unset, .unset, .val (.long kk30), .second, .val (.long kk19), .second, .unset, .unset, .unset, .unset, .unset, .unset, .unset, .unset, .unset, .unset, .unset, .unset, .unset, .unset, .unset] [])) _
    refine XS.iloadN X0.here hx rfl (hb hby at_32) rfl ?_
    show Steps p.tables e below (s₁.setTop (mkF m 33 #[.val (.int p1), .val (.int p2), .val (.int p3), .val (.int p4), .val (.int p5), .val (.int (p5 &&& (3 : Int32))), .unset, .unset, .val (.long kk30), .second, .val (.long kk19), .second, .unset, .unset, .unset, .unset, .unset, .unset, .unset, .unset, .unset, .unset, .unset, .unset, .unset, .unset, .unset] [(.int p4)])) _
    refine XS.sipush X0.here hx rfl (hb hby at_33) ?_
    show Steps p.tables e below (s₁.setTop (mkF m 36 #[.val (.int p1), .val (.int p2), .val (.int p3), .val (.int p4), .val (.int p5), .val (.int (p5 &&& (3 : Int32))), .unset, .unset, .val (.long kk30), .second, .val (.long kk19), .second, .unset, .unset, .unset, .unset, .unset, .unset, .unset, .unset, .unset, .unset, .unset, .unset, .unset, .unset, .unset] [(.int (1023 : Int32)), (.int p4)])) _
    refine XS.iand X0.here hx rfl (hb hby at_36) rfl ?_
    show Steps p.tables e below (s₁.setTop (mkF m 37 #[.val (.int p1), .val (.int p2), .val (.int p3), .val (.int p4), .val (.int p5), .val (.int (p5 &&& (3 : Int32))), .unset, .unset, .val (.long kk30), .second, .val (.long kk19), .second, .unset, .unset, .unset, .unset, .unset, .unset, .unset, .unset, .unset, .unset, .unset, .unset, .unset, .unset, .unset] [(.int (p4 &&& (1023 : Int32)))])) _
    refine XS.iconst X0.here hx rfl (hb hby at_37) ?_
    show Steps p.tables e below (s₁.setTop (mkF m 38 #[.val (.int p1), .val (.int p2), .val (.int p3), .val (.int p4), .val (.int p5), .val (.int (p5 &&& (3 : Int32))), .unset, .unset, .val (.long kk30), .second, .val (.long kk19), .second, .unset, .unset, .unset, .unset, .unset, .unset, .unset, .unset, .unset, .unset, .unset, .unset, .unset, .unset, .unset] [(.int (1 : Int32)), (.int (p4 &&& (1023 : Int32)))])) _
    refine XS.iadd X0.here hx rfl (hb hby at_38) rfl ?_
    show Steps p.tables e below (s₁.setTop (mkF m 39 #[.val (.int p1), .val (.int p2), .val (.int p3), .val (.int p4), .val (.int p5), .val (.int (p5 &&& (3 : Int32))), .unset, .unset, .val (.long kk30), .second, .val (.long kk19), .second, .unset, .unset, .unset, .unset, .unset, .unset, .unset, .unset, .unset, .unset, .unset, .unset, .unset, .unset, .unset] [(.int ((p4 &&& (1023 : Int32)) + (1 : Int32)))])) _
    refine XS.i2l X0.here hx rfl (hb hby at_39) rfl ?_
    show Steps p.tables e below (s₁.setTop (mkF m 40 #[.val (.int p1), .val (.int p2), .val (.int p3), .val (.int p4), .val (.int p5), .val (.int (p5 &&& (3 : Int32))), .unset, .unset, .val (.long kk30), .second, .val (.long kk19), .second, .unset, .unset, .unset, .unset, .unset, .unset, .unset, .unset, .unset, .unset, .unset, .unset, .unset, .unset, .unset] [(.long (((p4 &&& (1023 : Int32)) + (1 : Int32)).toInt64))])) _
    refine XS.lstore X0.here hx rfl (hb hby at_40) rfl (l' := #[.val (.int p1), .val (.int p2), .val (.int p3), .val (.int p4), .val (.int p5), .val (.int (p5 &&& (3 : Int32))), .unset, .unset, .val (.long kk30), .second, .val (.long kk19), .second, .val (.long (((p4 &&& (1023 : Int32)) + (1 : Int32)).toInt64)), .second, .unset, .unset, .unset, .unset, .unset, .unset, .unset, .unset, .unset, .unset, .unset, .unset, .unset]) rfl ?_
    show Steps p.tables e below (s₁.setTop (mkF m 42 #[.val (.int p1), .val (.int p2), .val (.int p3), .val (.int p4), .val (.int p5), .val (.int (p5 &&& (3 : Int32))), .unset, .unset, .val (.long kk30), .second, .val (.long kk19), .second, .val (.long (((p4 &&& (1023 : Int32)) + (1 : Int32)).toInt64)), .second, .unset, .unset, .unset, .unset, .unset, .unset, .unset, .unset, .unset, .unset, .unset, .unset, .unset] [])) _
    rw [hk40]
    show Steps p.tables e below (s₁.setTop (mkF m 42 #[.val (.int p1), .val (.int p2), .val (.int p3), .val (.int p4), .val (.int p5), .val (.int (p5 &&& (3 : Int32))), .unset, .unset, .val (.long kk30), .second, .val (.long kk19), .second, .val (.long kk40), .second, .unset, .unset, .unset, .unset, .unset, .unset, .unset, .unset, .unset, .unset, .unset, .unset, .unset] [])) _
    refine XS.iloadN X0.here hx rfl (hb hby at_42) rfl ?_
    show Steps p.tables e below (s₁.setTop (mkF m 43 #[.val (.int p1), .val (.int p2), .val (.int p3), .val (.int p4), .val (.int p5), .val (.int (p5 &&& (3 : Int32))), .unset, .unset, .val (.long kk30), .second, .val (.long kk19), .second, .val (.long kk40), .second, .unset, .unset, .unset, .unset, .unset, .unset, .unset, .unset, .unset, .unset, .unset, .unset, .unset] [(.int p1)])) _
    refine XS.sipush X0.here hx rfl (hb hby at_43) ?_
    show Steps p.tables e below (s₁.setTop (mkF m 46 #[.val (.int p1), .val (.int p2), .val (.int p3), .val (.int p4), .val (.int p5), .val (.int (p5 &&& (3 : Int32))), .unset, .unset, .val (.long kk30), .second, .val (.long kk19), .second, .val (.long kk40), .second, .unset, .unset, .unset, .unset, .unset, .unset, .unset, .unset, .unset, .unset, .unset, .unset, .unset] [(.int (32767 : Int32)), (.int p1)])) _
    refine XS.iand X0.here hx rfl (hb hby at_46) rfl ?_
    show Steps p.tables e below (s₁.setTop (mkF m 47 #[.val (.int p1), .val (.int p2), .val (.int p3), .val (.int p4), .val (.int p5), .val (.int (p5 &&& (3 : Int32))), .unset, .unset, .val (.long kk30), .second, .val (.long kk19), .second, .val (.long kk40), .second, .unset, .unset, .unset, .unset, .unset, .unset, .unset, .unset, .unset, .unset, .unset, .unset, .unset] [(.int (p1 &&& (32767 : Int32)))])) _
    refine XS.i2l X0.here hx rfl (hb hby at_47) rfl ?_
    show Steps p.tables e below (s₁.setTop (mkF m 48 #[.val (.int p1), .val (.int p2), .val (.int p3), .val (.int p4), .val (.int p5), .val (.int (p5 &&& (3 : Int32))), .unset, .unset, .val (.long kk30), .second, .val (.long kk19), .second, .val (.long kk40), .second, .unset, .unset, .unset, .unset, .unset, .unset, .unset, .unset, .unset, .unset, .unset, .unset, .unset] [(.long ((p1 &&& (32767 : Int32)).toInt64))])) _
    refine XS.lstore X0.here hx rfl (hb hby at_48) rfl (l' := #[.val (.int p1), .val (.int p2), .val (.int p3), .val (.int p4), .val (.int p5), .val (.int (p5 &&& (3 : Int32))), .val (.long ((p1 &&& (32767 : Int32)).toInt64)), .second, .val (.long kk30), .second, .val (.long kk19), .second, .val (.long kk40), .second, .unset, .unset, .unset, .unset, .unset, .unset, .unset, .unset, .unset, .unset, .unset, .unset, .unset]) rfl ?_
    show Steps p.tables e below (s₁.setTop (mkF m 50 #[.val (.int p1), .val (.int p2), .val (.int p3), .val (.int p4), .val (.int p5), .val (.int (p5 &&& (3 : Int32))), .val (.long ((p1 &&& (32767 : Int32)).toInt64)), .second, .val (.long kk30), .second, .val (.long kk19), .second, .val (.long kk40), .second, .unset, .unset, .unset, .unset, .unset, .unset, .unset, .unset, .unset, .unset, .unset, .unset, .unset] [])) _
    rw [hk48]
    show Steps p.tables e below (s₁.setTop (mkF m 50 #[.val (.int p1), .val (.int p2), .val (.int p3), .val (.int p4), .val (.int p5), .val (.int (p5 &&& (3 : Int32))), .val (.long kk48), .second, .val (.long kk30), .second, .val (.long kk19), .second, .val (.long kk40), .second, .unset, .unset, .unset, .unset, .unset, .unset, .unset, .unset, .unset, .unset, .unset, .unset, .unset] [])) _
    refine XS.goto X0.here hx rfl (pc0 := 50) (pc' := 146) rfl (hb hby at_50) (by decide) (by decide) ?_
    show Steps p.tables e below (s₁.setTop (mkF m 146 #[.val (.int p1), .val (.int p2), .val (.int p3), .val (.int p4), .val (.int p5), .val (.int (p5 &&& (3 : Int32))), .val (.long kk48), .second, .val (.long kk30), .second, .val (.long kk19), .second, .val (.long kk40), .second, .unset, .unset, .unset, .unset, .unset, .unset, .unset, .unset, .unset, .unset, .unset, .unset, .unset] [])) _
    refine XS.lload X0.here hx rfl (hb hby at_146) rfl ?_
    show Steps p.tables e below (s₁.setTop (mkF m 148 #[.val (.int p1), .val (.int p2), .val (.int p3), .val (.int p4), .val (.int p5), .val (.int (p5 &&& (3 : Int32))), .val (.long kk48), .second, .val (.long kk30), .second, .val (.long kk19), .second, .val (.long kk40), .second, .unset, .unset, .unset, .unset, .unset, .unset, .unset, .unset, .unset, .unset, .unset, .unset, .unset] [(.long kk19)])) _
    refine XS.lload X0.here hx rfl (hb hby at_148) rfl ?_
    show Steps p.tables e below (s₁.setTop (mkF m 150 #[.val (.int p1), .val (.int p2), .val (.int p3), .val (.int p4), .val (.int p5), .val (.int (p5 &&& (3 : Int32))), .val (.long kk48), .second, .val (.long kk30), .second, .val (.long kk19), .second, .val (.long kk40), .second, .unset, .unset, .unset, .unset, .unset, .unset, .unset, .unset, .unset, .unset, .unset, .unset, .unset] [(.long kk30), (.long kk19)])) _
    refine XS.lsub X0.here hx rfl (hb hby at_150) rfl ?_
    show Steps p.tables e below (s₁.setTop (mkF m 151 #[.val (.int p1), .val (.int p2), .val (.int p3), .val (.int p4), .val (.int p5), .val (.int (p5 &&& (3 : Int32))), .val (.long kk48), .second, .val (.long kk30), .second, .val (.long kk19), .second, .val (.long kk40), .second, .unset, .unset, .unset, .unset, .unset, .unset, .unset, .unset, .unset, .unset, .unset, .unset, .unset] [(.long (kk19 - kk30))])) _
    refine XS.lstore X0.here hx rfl (hb hby at_151) rfl (l' := #[.val (.int p1), .val (.int p2), .val (.int p3), .val (.int p4), .val (.int p5), .val (.int (p5 &&& (3 : Int32))), .val (.long kk48), .second, .val (.long kk30), .second, .val (.long kk19), .second, .val (.long kk40), .second, .val (.long (kk19 - kk30)), .second, .unset, .unset, .unset, .unset, .unset, .unset, .unset, .unset, .unset, .unset, .unset]) rfl ?_
    show Steps p.tables e below (s₁.setTop (mkF m 153 #[.val (.int p1), .val (.int p2), .val (.int p3), .val (.int p4), .val (.int p5), .val (.int (p5 &&& (3 : Int32))), .val (.long kk48), .second, .val (.long kk30), .second, .val (.long kk19), .second, .val (.long kk40), .second, .val (.long (kk19 - kk30)), .second, .unset, .unset, .unset, .unset, .unset, .unset, .unset, .unset, .unset, .unset, .unset] [])) _
    refine XS.lload X0.here hx rfl (hb hby at_153) rfl ?_
    show Steps p.tables e below (s₁.setTop (mkF m 155 #[.val (.int p1), .val (.int p2), .val (.int p3), .val (.int p4), .val (.int p5), .val (.int (p5 &&& (3 : Int32))), .val (.long kk48), .second, .val (.long kk30), .second, .val (.long kk19), .second, .val (.long kk40), .second, .val (.long (kk19 - kk30)), .second, .unset, .unset, .unset, .unset, .unset, .unset, .unset, .unset, .unset, .unset, .unset] [(.long kk48)])) _
    refine XS.l2dS X0.here hx rfl (hb hby at_155) rfl rfl ?_
    show Steps p.tables e below (s₁.setTop (mkF m 156 #[.val (.int p1), .val (.int p2), .val (.int p3), .val (.int p4), .val (.int p5), .val (.int (p5 &&& (3 : Int32))), .val (.long kk48), .second, .val (.long kk30), .second, .val (.long kk19), .second, .val (.long kk40), .second, .val (.long (kk19 - kk30)), .second, .unset, .unset, .unset, .unset, .unset, .unset, .unset, .unset, .unset, .unset, .unset] [(.double (FP.l2d kk48))])) _
    refine XS.lload X0.here hx rfl (hb hby at_156) rfl ?_
    show Steps p.tables e below (s₁.setTop (mkF m 158 #[.val (.int p1), .val (.int p2), .val (.int p3), .val (.int p4), .val (.int p5), .val (.int (p5 &&& (3 : Int32))), .val (.long kk48), .second, .val (.long kk30), .second, .val (.long kk19), .second, .val (.long kk40), .second, .val (.long (kk19 - kk30)), .second, .unset, .unset, .unset, .unset, .unset, .unset, .unset, .unset, .unset, .unset, .unset] [(.long kk30), (.double (FP.l2d kk48))])) _
    refine XS.l2dS X0.here hx rfl (hb hby at_158) rfl rfl ?_
    show Steps p.tables e below (s₁.setTop (mkF m 159 #[.val (.int p1), .val (.int p2), .val (.int p3), .val (.int p4), .val (.int p5), .val (.int (p5 &&& (3 : Int32))), .val (.long kk48), .second, .val (.long kk30), .second, .val (.long kk19), .second, .val (.long kk40), .second, .val (.long (kk19 - kk30)), .second, .unset, .unset, .unset, .unset, .unset, .unset, .unset, .unset, .unset, .unset, .unset] [(.double (FP.l2d kk30)), (.double (FP.l2d kk48))])) _
    refine XS.lload X0.here hx rfl (hb hby at_159) rfl ?_
    show Steps p.tables e below (s₁.setTop (mkF m 161 #[.val (.int p1), .val (.int p2), .val (.int p3), .val (.int p4), .val (.int p5), .val (.int (p5 &&& (3 : Int32))), .val (.long kk48), .second, .val (.long kk30), .second, .val (.long kk19), .second, .val (.long kk40), .second, .val (.long (kk19 - kk30)), .second, .unset, .unset, .unset, .unset, .unset, .unset, .unset, .unset, .unset, .unset, .unset] [(.long kk19), (.double (FP.l2d kk30)), (.double (FP.l2d kk48))])) _
    refine XS.l2dS X0.here hx rfl (hb hby at_161) rfl rfl ?_
    show Steps p.tables e below (s₁.setTop (mkF m 162 #[.val (.int p1), .val (.int p2), .val (.int p3), .val (.int p4), .val (.int p5), .val (.int (p5 &&& (3 : Int32))), .val (.long kk48), .second, .val (.long kk30), .second, .val (.long kk19), .second, .val (.long kk40), .second, .val (.long (kk19 - kk30)), .second, .unset, .unset, .unset, .unset, .unset, .unset, .unset, .unset, .unset, .unset, .unset] [(.double (FP.l2d kk19)), (.double (FP.l2d kk30)), (.double (FP.l2d kk48))])) _
    refine XS.lload X0.here hx rfl (hb hby at_162) rfl ?_
    show Steps p.tables e below (s₁.setTop (mkF m 164 #[.val (.int p1), .val (.int p2), .val (.int p3), .val (.int p4), .val (.int p5), .val (.int (p5 &&& (3 : Int32))), .val (.long kk48), .second, .val (.long kk30), .second, .val (.long kk19), .second, .val (.long kk40), .second, .val (.long (kk19 - kk30)), .second, .unset, .unset, .unset, .unset, .unset, .unset, .unset, .unset, .unset, .unset, .unset] [(.long kk40), (.double (FP.l2d kk19)), (.double (FP.l2d kk30)), (.double (FP.l2d kk48))])) _
    refine XS.l2dS X0.here hx rfl (hb hby at_164) rfl rfl ?_
    show Steps p.tables e below (s₁.setTop (mkF m 165 #[.val (.int p1), .val (.int p2), .val (.int p3), .val (.int p4), .val (.int p5), .val (.int (p5 &&& (3 : Int32))), .val (.long kk48), .second, .val (.long kk30), .second, .val (.long kk19), .second, .val (.long kk40), .second, .val (.long (kk19 - kk30)), .second, .unset, .unset, .unset, .unset, .unset, .unset, .unset, .unset, .unset, .unset, .unset] [(.double (FP.l2d kk40)), (.double (FP.l2d kk19)), (.double (FP.l2d kk30)), (.double (FP.l2d kk48))])) _
    refine st6 _ ?_
    show Steps p.tables e below (T6.setTop (mkF m 168 #[.val (.int p1), .val (.int p2), .val (.int p3), .val (.int p4), .val (.int p5), .val (.int (p5 &&& (3 : Int32))), .val (.long kk48), .second, .val (.long kk30), .second, .val (.long kk19), .second, .val (.long kk40), .second, .val (.long (kk19 - kk30)), .second, .unset, .unset, .unset, .unset, .unset, .unset, .unset, .unset, .unset, .unset, .unset] [(.ref bR)])) _
    refine XS.astore X6.here hx rfl (hb hby at_168) rfl rfl (l' := #[.val (.int p1), .val (.int p2), .val (.int p3), .val (.int p4), .val (.int p5), .val (.int (p5 &&& (3 : Int32))), .val (.long kk48), .second, .val (.long kk30), .second, .val (.long kk19), .second, .val (.long kk40), .second, .val (.long (kk19 - kk30)), .second, .val (.ref bR), .unset, .unset, .unset, .unset, .unset, .unset, .unset, .unset, .unset, .unset]) rfl ?_
    show Steps p.tables e below (T6.setTop (mkF m 170 #[.val (.int p1), .val (.int p2), .val (.int p3), .val (.int p4), .val (.int p5), .val (.int (p5 &&& (3 : Int32))), .val (.long kk48), .second, .val (.long kk30), .second, .val (.long kk19), .second, .val (.long kk40), .second, .val (.long (kk19 - kk30)), .second, .val (.ref bR), .unset, .unset, .unset, .unset, .unset, .unset, .unset, .unset, .unset, .unset] [])) _
    refine XS.lload X6.here hx rfl (hb hby at_170) rfl ?_
    show Steps p.tables e below (T6.setTop (mkF m 172 #[.val (.int p1), .val (.int p2), .val (.int p3), .val (.int p4), .val (.int p5), .val (.int (p5 &&& (3 : Int32))), .val (.long kk48), .second, .val (.long kk30), .second, .val (.long kk19), .second, .val (.long kk40), .second, .val (.long (kk19 - kk30)), .second, .val (.ref bR), .unset, .unset, .unset, .unset, .unset, .unset, .unset, .unset, .unset, .unset] [(.long (kk19 - kk30))])) _
    refine XS.lconst X6.here hx rfl (hb hby at_172) ?_
    show Steps p.tables e below (T6.setTop (mkF m 173 #[.val (.int p1), .val (.int p2), .val (.int p3), .val (.int p4), .val (.int p5), .val (.int (p5 &&& (3 : Int32))), .val (.long kk48), .second, .val (.long kk30), .second, .val (.long kk19), .second, .val (.long kk40), .second, .val (.long (kk19 - kk30)), .second, .val (.ref bR), .unset, .unset, .unset, .unset, .unset, .unset, .unset, .unset, .unset, .unset] [(.long (0 : Int64)), (.long (kk19 - kk30))])) _
    refine XS.lcmp X6.here hx rfl (hb hby at_173) rfl ?_
    show Steps p.tables e below (T6.setTop (mkF m 174 #[.val (.int p1), .val (.int p2), .val (.int p3), .val (.int p4), .val (.int p5), .val (.int (p5 &&& (3 : Int32))), .val (.long kk48), .second, .val (.long kk30), .second, .val (.long kk19), .second, .val (.long kk40), .second, .val (.long (kk19 - kk30)), .second, .val (.ref bR), .unset, .unset, .unset, .unset, .unset, .unset, .unset, .unset, .unset, .unset] [(.int (lcmpW (kk19 - kk30) (0 : Int64)))])) _
    refine XS.ifYes X6.here hx rfl (pc0 := 174) (pc' := 245) rfl (hb hby at_174) rfl ((if0 _ _).trans (flt hc174).2.2.2) (by decide) (by decide) ?_
    show Steps p.tables e below (T6.setTop (mkF m 245 #[.val (.int p1), .val (.int p2), .val (.int p3), .val (.int p4), .val (.int p5), .val (.int (p5 &&& (3 : Int32))), .val (.long kk48), .second, .val (.long kk30), .second, .val (.long kk19), .second, .val (.long kk40), .second, .val (.long (kk19 - kk30)), .second, .val (.ref bR), .unset, .unset, .unset, .unset, .unset, .unset, .unset, .unset, .unset, .unset] [])) _
    refine X6.ldc2Long hx hown (mvT hZ (hw _ (List.mem_of_getElem? (i := 23) rfl))) (g := (mkF m 245 #[.val (.int p1), .val (.int p2), .val (.int p3), .val (.int p4), .val (.int p5), .val (.int (p5 &&& (3 : Int32))), .val (.long kk48), .second, .val (.long kk30), .second, .val (.long kk19), .second, .val (.long kk40), .second, .val (.long (kk19 - kk30)), .second, .val (.ref bR), .unset, .unset, .unset, .unset, .unset, .unset, .unset, .unset, .unset, .unset] [])) rfl (hb hby at_245) _ ?_
    show Steps p.tables e below (T6.setTop (mkF m 248 #[.val (.int p1), .val (.int p2), .val (.int p3), .val (.int p4), .val (.int p5), .val (.int (p5 &&& (3 : Int32))), .val (.long kk48), .second, .val (.long kk30), .second, .val (.long kk19), .second, .val (.long kk40), .second, .val (.long (kk19 - kk30)), .second, .val (.ref bR), .unset, .unset, .unset, .unset, .unset, .unset, .unset, .unset, .unset, .unset] [(.long (2 : Int64))])) _
    refine XS.lload X6.here hx rfl (hb hby at_248) rfl ?_
    show Steps p.tables e below (T6.setTop (mkF m 250 #[.val (.int p1), .val (.int p2), .val (.int p3), .val (.int p4), .val (.int p5), .val (.int (p5 &&& (3 : Int32))), .val (.long kk48), .second, .val (.long kk30), .second, .val (.long kk19), .second, .val (.long kk40), .second, .val (.long (kk19 - kk30)), .second, .val (.ref bR), .unset, .unset, .unset, .unset, .unset, .unset, .unset, .unset, .unset, .unset] [(.long kk48), (.long (2 : Int64))])) _
    refine XS.lmul X6.here hx rfl (hb hby at_250) rfl ?_
    show Steps p.tables e below (T6.setTop (mkF m 251 #[.val (.int p1), .val (.int p2), .val (.int p3), .val (.int p4), .val (.int p5), .val (.int (p5 &&& (3 : Int32))), .val (.long kk48), .second, .val (.long kk30), .second, .val (.long kk19), .second, .val (.long kk40), .second, .val (.long (kk19 - kk30)), .second, .val (.ref bR), .unset, .unset, .unset, .unset, .unset, .unset, .unset, .unset, .unset, .unset] [(.long ((2 : Int64) * kk48))])) _
    refine XS.lload X6.here hx rfl (hb hby at_251) rfl ?_
    show Steps p.tables e below (T6.setTop (mkF m 253 #[.val (.int p1), .val (.int p2), .val (.int p3), .val (.int p4), .val (.int p5), .val (.int (p5 &&& (3 : Int32))), .val (.long kk48), .second, .val (.long kk30), .second, .val (.long kk19), .second, .val (.long kk40), .second, .val (.long (kk19 - kk30)), .second, .val (.ref bR), .unset, .unset, .unset, .unset, .unset, .unset, .unset, .unset, .unset, .unset] [(.long (kk19 - kk30)), (.long ((2 : Int64) * kk48))])) _
    refine XS.lload X6.here hx rfl (hb hby at_253) rfl ?_
    show Steps p.tables e below (T6.setTop (mkF m 255 #[.val (.int p1), .val (.int p2), .val (.int p3), .val (.int p4), .val (.int p5), .val (.int (p5 &&& (3 : Int32))), .val (.long kk48), .second, .val (.long kk30), .second, .val (.long kk19), .second, .val (.long kk40), .second, .val (.long (kk19 - kk30)), .second, .val (.ref bR), .unset, .unset, .unset, .unset, .unset, .unset, .unset, .unset, .unset, .unset] [(.long kk40), (.long (kk19 - kk30)), (.long ((2 : Int64) * kk48))])) _
    refine XS.lmul X6.here hx rfl (hb hby at_255) rfl ?_
    show Steps p.tables e below (T6.setTop (mkF m 256 #[.val (.int p1), .val (.int p2), .val (.int p3), .val (.int p4), .val (.int p5), .val (.int (p5 &&& (3 : Int32))), .val (.long kk48), .second, .val (.long kk30), .second, .val (.long kk19), .second, .val (.long kk40), .second, .val (.long (kk19 - kk30)), .second, .val (.ref bR), .unset, .unset, .unset, .unset, .unset, .unset, .unset, .unset, .unset, .unset] [(.long ((kk19 - kk30) * kk40)), (.long ((2 : Int64) * kk48))])) _
    refine XS.lsub X6.here hx rfl (hb hby at_256) rfl ?_
    show Steps p.tables e below (T6.setTop (mkF m 257 #[.val (.int p1), .val (.int p2), .val (.int p3), .val (.int p4), .val (.int p5), .val (.int (p5 &&& (3 : Int32))), .val (.long kk48), .second, .val (.long kk30), .second, .val (.long kk19), .second, .val (.long kk40), .second, .val (.long (kk19 - kk30)), .second, .val (.ref bR), .unset, .unset, .unset, .unset, .unset, .unset, .unset, .unset, .unset, .unset] [(.long (((2 : Int64) * kk48) - ((kk19 - kk30) * kk40)))])) _
    refine X6.ldc2Long hx hown (mvT hZ (hw _ (List.mem_of_getElem? (i := 23) rfl))) (g := (mkF m 257 #[.val (.int p1), .val (.int p2), .val (.int p3), .val (.int p4), .val (.int p5), .val (.int (p5 &&& (3 : Int32))), .val (.long kk48), .second, .val (.long kk30), .second, .val (.long kk19), .second, .val (.long kk40), .second, .val (.long (kk19 - kk30)), .second, .val (.ref bR), .unset, .unset, .unset, .unset, .unset, .unset, .unset, .unset, .unset, .unset] [(.long (((2 : Int64) * kk48) - ((kk19 - kk30) * kk40)))])) rfl (hb hby at_257) _ ?_
    show Steps p.tables e below (T6.setTop (mkF m 260 #[.val (.int p1), .val (.int p2), .val (.int p3), .val (.int p4), .val (.int p5), .val (.int (p5 &&& (3 : Int32))), .val (.long kk48), .second, .val (.long kk30), .second, .val (.long kk19), .second, .val (.long kk40), .second, .val (.long (kk19 - kk30)), .second, .val (.ref bR), .unset, .unset, .unset, .unset, .unset, .unset, .unset, .unset, .unset, .unset] [(.long (2 : Int64)), (.long (((2 : Int64) * kk48) - ((kk19 - kk30) * kk40)))])) _
    refine XS.ladd X6.here hx rfl (hb hby at_260) rfl ?_
    show Steps p.tables e below (T6.setTop (mkF m 261 #[.val (.int p1), .val (.int p2), .val (.int p3), .val (.int p4), .val (.int p5), .val (.int (p5 &&& (3 : Int32))), .val (.long kk48), .second, .val (.long kk30), .second, .val (.long kk19), .second, .val (.long kk40), .second, .val (.long (kk19 - kk30)), .second, .val (.ref bR), .unset, .unset, .unset, .unset, .unset, .unset, .unset, .unset, .unset, .unset] [(.long ((((2 : Int64) * kk48) - ((kk19 - kk30) * kk40)) + (2 : Int64)))])) _
    refine XS.lstore X6.here hx rfl (hb hby at_261) rfl (l' := #[.val (.int p1), .val (.int p2), .val (.int p3), .val (.int p4), .val (.int p5), .val (.int (p5 &&& (3 : Int32))), .val (.long kk48), .second, .val (.long kk30), .second, .val (.long kk19), .second, .val (.long kk40), .second, .val (.long (kk19 - kk30)), .second, .val (.ref bR), .val (.long ((((2 : Int64) * kk48) - ((kk19 - kk30) * kk40)) + (2 : Int64))), .second, .unset, .unset, .unset, .unset, .unset, .unset, .unset, .unset]) rfl ?_
    show Steps p.tables e below (T6.setTop (mkF m 263 #[.val (.int p1), .val (.int p2), .val (.int p3), .val (.int p4), .val (.int p5), .val (.int (p5 &&& (3 : Int32))), .val (.long kk48), .second, .val (.long kk30), .second, .val (.long kk19), .second, .val (.long kk40), .second, .val (.long (kk19 - kk30)), .second, .val (.ref bR), .val (.long ((((2 : Int64) * kk48) - ((kk19 - kk30) * kk40)) + (2 : Int64))), .second, .unset, .unset, .unset, .unset, .unset, .unset, .unset, .unset] [])) _
    rw [hk261]
    show Steps p.tables e below (T6.setTop (mkF m 263 #[.val (.int p1), .val (.int p2), .val (.int p3), .val (.int p4), .val (.int p5), .val (.int (p5 &&& (3 : Int32))), .val (.long kk48), .second, .val (.long kk30), .second, .val (.long kk19), .second, .val (.long kk40), .second, .val (.long (kk19 - kk30)), .second, .val (.ref bR), .val (.long kk261), .second, .unset, .unset, .unset, .unset, .unset, .unset, .unset, .unset] [])) _
    refine X6.ldc2Long hx hown (mvT hZ (hw _ (List.mem_of_getElem? (i := 23) rfl))) (g := (mkF m 263 #[.val (.int p1), .val (.int p2), .val (.int p3), .val (.int p4), .val (.int p5), .val (.int (p5 &&& (3 : Int32))), .val (.long kk48), .second, .val (.long kk30), .second, .val (.long kk19), .second, .val (.long kk40), .second, .val (.long (kk19 - kk30)), .second, .val (.ref bR), .val (.long kk261), .second, .unset, .unset, .unset, .unset, .unset, .unset, .unset, .unset] [])) rfl (hb hby at_263) _ ?_
    show Steps p.tables e below (T6.setTop (mkF m 266 #[.val (.int p1), .val (.int p2), .val (.int p3), .val (.int p4), .val (.int p5), .val (.int (p5 &&& (3 : Int32))), .val (.long kk48), .second, .val (.long kk30), .second, .val (.long kk19), .second, .val (.long kk40), .second, .val (.long (kk19 - kk30)), .second, .val (.ref bR), .val (.long kk261), .second, .unset, .unset, .unset, .unset, .unset, .unset, .unset, .unset] [(.long (2 : Int64))])) _
    refine XS.lload X6.here hx rfl (hb hby at_266) rfl ?_
    show Steps p.tables e below (T6.setTop (mkF m 268 #[.val (.int p1), .val (.int p2), .val (.int p3), .val (.int p4), .val (.int p5), .val (.int (p5 &&& (3 : Int32))), .val (.long kk48), .second, .val (.long kk30), .second, .val (.long kk19), .second, .val (.long kk40), .second, .val (.long (kk19 - kk30)), .second, .val (.ref bR), .val (.long kk261), .second, .unset, .unset, .unset, .unset, .unset, .unset, .unset, .unset] [(.long kk19), (.long (2 : Int64))])) _
    refine XS.lmul X6.here hx rfl (hb hby at_268) rfl ?_
    show Steps p.tables e below (T6.setTop (mkF m 269 #[.val (.int p1), .val (.int p2), .val (.int p3), .val (.int p4), .val (.int p5), .val (.int (p5 &&& (3 : Int32))), .val (.long kk48), .second, .val (.long kk30), .second, .val (.long kk19), .second, .val (.long kk40), .second, .val (.long (kk19 - kk30)), .second, .val (.ref bR), .val (.long kk261), .second, .unset, .unset, .unset, .unset, .unset, .unset, .unset, .unset] [(.long ((2 : Int64) * kk19))])) _
    refine XS.lstore X6.here hx rfl (hb hby at_269) rfl (l' := #[.val (.int p1), .val (.int p2), .val (.int p3), .val (.int p4), .val (.int p5), .val (.int (p5 &&& (3 : Int32))), .val (.long kk48), .second, .val (.long kk30), .second, .val (.long kk19), .second, .val (.long kk40), .second, .val (.long (kk19 - kk30)), .second, .val (.ref bR), .val (.long kk261), .second, .val (.long ((2 : Int64) * kk19)), .second, .unset, .unset, .unset, .unset, .unset, .unset]) rfl ?_
    show Steps p.tables e below (T6.setTop (mkF m 271 #[.val (.int p1), .val (.int p2), .val (.int p3), .val (.int p4), .val (.int p5), .val (.int (p5 &&& (3 : Int32))), .val (.long kk48), .second, .val (.long kk30), .second, .val (.long kk19), .second, .val (.long kk40), .second, .val (.long (kk19 - kk30)), .second, .val (.ref bR), .val (.long kk261), .second, .val (.long ((2 : Int64) * kk19)), .second, .unset, .unset, .unset, .unset, .unset, .unset] [])) _
    refine XS.lload X6.here hx rfl (hb hby at_271) rfl ?_
    show Steps p.tables e below (T6.setTop (mkF m 273 #[.val (.int p1), .val (.int p2), .val (.int p3), .val (.int p4), .val (.int p5), .val (.int (p5 &&& (3 : Int32))), .val (.long kk48), .second, .val (.long kk30), .second, .val (.long kk19), .second, .val (.long kk40), .second, .val (.long (kk19 - kk30)), .second, .val (.ref bR), .val (.long kk261), .second, .val (.long ((2 : Int64) * kk19)), .second, .unset, .unset, .unset, .unset, .unset, .unset] [(.long kk40)])) _
    refine XS.lneg X6.here hx rfl (hb hby at_273) rfl ?_
    show Steps p.tables e below (T6.setTop (mkF m 274 #[.val (.int p1), .val (.int p2), .val (.int p3), .val (.int p4), .val (.int p5), .val (.int (p5 &&& (3 : Int32))), .val (.long kk48), .second, .val (.long kk30), .second, .val (.long kk19), .second, .val (.long kk40), .second, .val (.long (kk19 - kk30)), .second, .val (.ref bR), .val (.long kk261), .second, .val (.long ((2 : Int64) * kk19)), .second, .unset, .unset, .unset, .unset, .unset, .unset] [(.long (-kk40))])) _
    refine XS.l2dS X6.here hx rfl (hb hby at_274) rfl rfl ?_
    show Steps p.tables e below (T6.setTop (mkF m 275 #[.val (.int p1), .val (.int p2), .val (.int p3), .val (.int p4), .val (.int p5), .val (.int (p5 &&& (3 : Int32))), .val (.long kk48), .second, .val (.long kk30), .second, .val (.long kk19), .second, .val (.long kk40), .second, .val (.long (kk19 - kk30)), .second, .val (.ref bR), .val (.long kk261), .second, .val (.long ((2 : Int64) * kk19)), .second, .unset, .unset, .unset, .unset, .unset, .unset] [(.double (FP.l2d (-kk40)))])) _
    refine X6.ldc2DoubleC hx hown (mvT hZ (hw _ (List.mem_of_getElem? (i := 24) rfl))) (g := (mkF m 275 #[.val (.int p1), .val (.int p2), .val (.int p3), .val (.int p4), .val (.int p5), .val (.int (p5 &&& (3 : Int32))), .val (.long kk48), .second, .val (.long kk30), .second, .val (.long kk19), .second, .val (.long kk40), .second, .val (.long (kk19 - kk30)), .second, .val (.ref bR), .val (.long kk261), .second, .val (.long ((2 : Int64) * kk19)), .second, .unset, .unset, .unset, .unset, .unset, .unset] [(.double (FP.l2d (-kk40)))])) rfl (hb hby at_275) _ ?_
    show Steps p.tables e below (T6.setTop (mkF m 278 #[.val (.int p1), .val (.int p2), .val (.int p3), .val (.int p4), .val (.int p5), .val (.int (p5 &&& (3 : Int32))), .val (.long kk48), .second, .val (.long kk30), .second, .val (.long kk19), .second, .val (.long kk40), .second, .val (.long (kk19 - kk30)), .second, .val (.ref bR), .val (.long kk261), .second, .val (.long ((2 : Int64) * kk19)), .second, .unset, .unset, .unset, .unset, .unset, .unset] [(.double (4611686018427387904 : UInt64)), (.double (FP.l2d (-kk40)))])) _
    refine XS.ddivS X6.here hx rfl (hb hby at_278) rfl hn278 hv278 ?_
    show Steps p.tables e below (T6.setTop (mkF m 279 #[.val (.int p1), .val (.int p2), .val (.int p3), .val (.int p4), .val (.int p5), .val (.int (p5 &&& (3 : Int32))), .val (.long kk48), .second, .val (.long kk30), .second, .val (.long kk19), .second, .val (.long kk40), .second, .val (.long (kk19 - kk30)), .second, .val (.ref bR), .val (.long kk261), .second, .val (.long ((2 : Int64) * kk19)), .second, .unset, .unset, .unset, .unset, .unset, .unset] [(.double r278)])) _
    refine XS.dstore X6.here hx rfl (hb hby at_279) rfl (l' := #[.val (.int p1), .val (.int p2), .val (.int p3), .val (.int p4), .val (.int p5), .val (.int (p5 &&& (3 : Int32))), .val (.long kk48), .second, .val (.long kk30), .second, .val (.long kk19), .second, .val (.long kk40), .second, .val (.long (kk19 - kk30)), .second, .val (.ref bR), .val (.long kk261), .second, .val (.long ((2 : Int64) * kk19)), .second, .val (.double r278), .second, .unset, .unset, .unset, .unset]) rfl ?_
    show Steps p.tables e below (T6.setTop (mkF m 281 #[.val (.int p1), .val (.int p2), .val (.int p3), .val (.int p4), .val (.int p5), .val (.int (p5 &&& (3 : Int32))), .val (.long kk48), .second, .val (.long kk30), .second, .val (.long kk19), .second, .val (.long kk40), .second, .val (.long (kk19 - kk30)), .second, .val (.ref bR), .val (.long kk261), .second, .val (.long ((2 : Int64) * kk19)), .second, .val (.double r278), .second, .unset, .unset, .unset, .unset] [])) _
    refine XS.lload X6.here hx rfl (hb hby at_281) rfl ?_
    show Steps p.tables e below (T6.setTop (mkF m 283 #[.val (.int p1), .val (.int p2), .val (.int p3), .val (.int p4), .val (.int p5), .val (.int (p5 &&& (3 : Int32))), .val (.long kk48), .second, .val (.long kk30), .second, .val (.long kk19), .second, .val (.long kk40), .second, .val (.long (kk19 - kk30)), .second, .val (.ref bR), .val (.long kk261), .second, .val (.long ((2 : Int64) * kk19)), .second, .val (.double r278), .second, .unset, .unset, .unset, .unset] [(.long kk261)])) _
    refine XS.l2dS X6.here hx rfl (hb hby at_283) rfl rfl ?_
    show Steps p.tables e below (T6.setTop (mkF m 284 #[.val (.int p1), .val (.int p2), .val (.int p3), .val (.int p4), .val (.int p5), .val (.int (p5 &&& (3 : Int32))), .val (.long kk48), .second, .val (.long kk30), .second, .val (.long kk19), .second, .val (.long kk40), .second, .val (.long (kk19 - kk30)), .second, .val (.ref bR), .val (.long kk261), .second, .val (.long ((2 : Int64) * kk19)), .second, .val (.double r278), .second, .unset, .unset, .unset, .unset] [(.double (FP.l2d kk261))])) _
    refine XS.lload X6.here hx rfl (hb hby at_284) rfl ?_
    show Steps p.tables e below (T6.setTop (mkF m 286 #[.val (.int p1), .val (.int p2), .val (.int p3), .val (.int p4), .val (.int p5), .val (.int (p5 &&& (3 : Int32))), .val (.long kk48), .second, .val (.long kk30), .second, .val (.long kk19), .second, .val (.long kk40), .second, .val (.long (kk19 - kk30)), .second, .val (.ref bR), .val (.long kk261), .second, .val (.long ((2 : Int64) * kk19)), .second, .val (.double r278), .second, .unset, .unset, .unset, .unset] [(.long ((2 : Int64) * kk19)), (.double (FP.l2d kk261))])) _
    refine XS.l2dS X6.here hx rfl (hb hby at_286) rfl rfl ?_
    show Steps p.tables e below (T6.setTop (mkF m 287 #[.val (.int p1), .val (.int p2), .val (.int p3), .val (.int p4), .val (.int p5), .val (.int (p5 &&& (3 : Int32))), .val (.long kk48), .second, .val (.long kk30), .second, .val (.long kk19), .second, .val (.long kk40), .second, .val (.long (kk19 - kk30)), .second, .val (.ref bR), .val (.long kk261), .second, .val (.long ((2 : Int64) * kk19)), .second, .val (.double r278), .second, .unset, .unset, .unset, .unset] [(.double (FP.l2d ((2 : Int64) * kk19))), (.double (FP.l2d kk261))])) _
    refine XS.ddivS X6.here hx rfl (hb hby at_287) rfl hn287 hv287 ?_
    show Steps p.tables e below (T6.setTop (mkF m 288 #[.val (.int p1), .val (.int p2), .val (.int p3), .val (.int p4), .val (.int p5), .val (.int (p5 &&& (3 : Int32))), .val (.long kk48), .second, .val (.long kk30), .second, .val (.long kk19), .second, .val (.long kk40), .second, .val (.long (kk19 - kk30)), .second, .val (.ref bR), .val (.long kk261), .second, .val (.long ((2 : Int64) * kk19)), .second, .val (.double r278), .second, .unset, .unset, .unset, .unset] [(.double r287)])) _
    refine XS.dstore X6.here hx rfl (hb hby at_288) rfl (l' := #[.val (.int p1), .val (.int p2), .val (.int p3), .val (.int p4), .val (.int p5), .val (.int (p5 &&& (3 : Int32))), .val (.long kk48), .second, .val (.long kk30), .second, .val (.long kk19), .second, .val (.long kk40), .second, .val (.long (kk19 - kk30)), .second, .val (.ref bR), .val (.long kk261), .second, .val (.long ((2 : Int64) * kk19)), .second, .val (.double r278), .second, .val (.double r287), .second, .unset, .unset]) rfl ?_
    show Steps p.tables e below (T6.setTop (mkF m 290 #[.val (.int p1), .val (.int p2), .val (.int p3), .val (.int p4), .val (.int p5), .val (.int (p5 &&& (3 : Int32))), .val (.long kk48), .second, .val (.long kk30), .second, .val (.long kk19), .second, .val (.long kk40), .second, .val (.long (kk19 - kk30)), .second, .val (.ref bR), .val (.long kk261), .second, .val (.long ((2 : Int64) * kk19)), .second, .val (.double r278), .second, .val (.double r287), .second, .unset, .unset] [])) _
    refine XS.dload X6.here hx rfl (hb hby at_290) rfl ?_
    show Steps p.tables e below (T6.setTop (mkF m 292 #[.val (.int p1), .val (.int p2), .val (.int p3), .val (.int p4), .val (.int p5), .val (.int (p5 &&& (3 : Int32))), .val (.long kk48), .second, .val (.long kk30), .second, .val (.long kk19), .second, .val (.long kk40), .second, .val (.long (kk19 - kk30)), .second, .val (.ref bR), .val (.long kk261), .second, .val (.long ((2 : Int64) * kk19)), .second, .val (.double r278), .second, .val (.double r287), .second, .unset, .unset] [(.double r278)])) _
    refine XS.dload X6.here hx rfl (hb hby at_292) rfl ?_
    show Steps p.tables e below (T6.setTop (mkF m 294 #[.val (.int p1), .val (.int p2), .val (.int p3), .val (.int p4), .val (.int p5), .val (.int (p5 &&& (3 : Int32))), .val (.long kk48), .second, .val (.long kk30), .second, .val (.long kk19), .second, .val (.long kk40), .second, .val (.long (kk19 - kk30)), .second, .val (.ref bR), .val (.long kk261), .second, .val (.long ((2 : Int64) * kk19)), .second, .val (.double r278), .second, .val (.double r287), .second, .unset, .unset] [(.double r287), (.double r278)])) _
    refine XS.dsubS X6.here hx rfl (hb hby at_294) rfl hn294 hv294 ?_
    show Steps p.tables e below (T6.setTop (mkF m 295 #[.val (.int p1), .val (.int p2), .val (.int p3), .val (.int p4), .val (.int p5), .val (.int (p5 &&& (3 : Int32))), .val (.long kk48), .second, .val (.long kk30), .second, .val (.long kk19), .second, .val (.long kk40), .second, .val (.long (kk19 - kk30)), .second, .val (.ref bR), .val (.long kk261), .second, .val (.long ((2 : Int64) * kk19)), .second, .val (.double r278), .second, .val (.double r287), .second, .unset, .unset] [(.double r294)])) _
    refine XS.lload X6.here hx rfl (hb hby at_295) rfl ?_
    show Steps p.tables e below (T6.setTop (mkF m 297 #[.val (.int p1), .val (.int p2), .val (.int p3), .val (.int p4), .val (.int p5), .val (.int (p5 &&& (3 : Int32))), .val (.long kk48), .second, .val (.long kk30), .second, .val (.long kk19), .second, .val (.long kk40), .second, .val (.long (kk19 - kk30)), .second, .val (.ref bR), .val (.long kk261), .second, .val (.long ((2 : Int64) * kk19)), .second, .val (.double r278), .second, .val (.double r287), .second, .unset, .unset] [(.long kk19), (.double r294)])) _
    refine XS.l2dS X6.here hx rfl (hb hby at_297) rfl rfl ?_
    show Steps p.tables e below (T6.setTop (mkF m 298 #[.val (.int p1), .val (.int p2), .val (.int p3), .val (.int p4), .val (.int p5), .val (.int (p5 &&& (3 : Int32))), .val (.long kk48), .second, .val (.long kk30), .second, .val (.long kk19), .second, .val (.long kk40), .second, .val (.long (kk19 - kk30)), .second, .val (.ref bR), .val (.long kk261), .second, .val (.long ((2 : Int64) * kk19)), .second, .val (.double r278), .second, .val (.double r287), .second, .unset, .unset] [(.double (FP.l2d kk19)), (.double r294)])) _
    refine XS.ddivS X6.here hx rfl (hb hby at_298) rfl hn298 hv298 ?_
    show Steps p.tables e below (T6.setTop (mkF m 299 #[.val (.int p1), .val (.int p2), .val (.int p3), .val (.int p4), .val (.int p5), .val (.int (p5 &&& (3 : Int32))), .val (.long kk48), .second, .val (.long kk30), .second, .val (.long kk19), .second, .val (.long kk40), .second, .val (.long (kk19 - kk30)), .second, .val (.ref bR), .val (.long kk261), .second, .val (.long ((2 : Int64) * kk19)), .second, .val (.double r278), .second, .val (.double r287), .second, .unset, .unset] [(.double r298)])) _
    refine XS.dstore X6.here hx rfl (hb hby at_299) rfl (l' := #[.val (.int p1), .val (.int p2), .val (.int p3), .val (.int p4), .val (.int p5), .val (.int (p5 &&& (3 : Int32))), .val (.long kk48), .second, .val (.long kk30), .second, .val (.long kk19), .second, .val (.long kk40), .second, .val (.long (kk19 - kk30)), .second, .val (.ref bR), .val (.long kk261), .second, .val (.long ((2 : Int64) * kk19)), .second, .val (.double r278), .second, .val (.double r287), .second, .val (.double r298), .second]) rfl ?_
    show Steps p.tables e below (T6.setTop (mkF m 301 #[.val (.int p1), .val (.int p2), .val (.int p3), .val (.int p4), .val (.int p5), .val (.int (p5 &&& (3 : Int32))), .val (.long kk48), .second, .val (.long kk30), .second, .val (.long kk19), .second, .val (.long kk40), .second, .val (.long (kk19 - kk30)), .second, .val (.ref bR), .val (.long kk261), .second, .val (.long ((2 : Int64) * kk19)), .second, .val (.double r278), .second, .val (.double r287), .second, .val (.double r298), .second] [])) _
    refine XS.aload X6.here hx rfl (hb hby at_301) rfl rfl ?_
    show Steps p.tables e below (T6.setTop (mkF m 303 #[.val (.int p1), .val (.int p2), .val (.int p3), .val (.int p4), .val (.int p5), .val (.int (p5 &&& (3 : Int32))), .val (.long kk48), .second, .val (.long kk30), .second, .val (.long kk19), .second, .val (.long kk40), .second, .val (.long (kk19 - kk30)), .second, .val (.ref bR), .val (.long kk261), .second, .val (.long ((2 : Int64) * kk19)), .second, .val (.double r278), .second, .val (.double r287), .second, .val (.double r298), .second] [(.ref bR)])) _
    refine st7.trans ?_
    show Steps p.tables e below (T7.setTop (mkF m 306 #[.val (.int p1), .val (.int p2), .val (.int p3), .val (.int p4), .val (.int p5), .val (.int (p5 &&& (3 : Int32))), .val (.long kk48), .second, .val (.long kk30), .second, .val (.long kk19), .second, .val (.long kk40), .second, .val (.long (kk19 - kk30)), .second, .val (.ref bR), .val (.long kk261), .second, .val (.long ((2 : Int64) * kk19)), .second, .val (.double r278), .second, .val (.double r287), .second, .val (.double r298), .second] [(.double tm)])) _
    refine XS.dload X7.here hx rfl (hb hby at_306) rfl ?_
    show Steps p.tables e below (T7.setTop (mkF m 308 #[.val (.int p1), .val (.int p2), .val (.int p3), .val (.int p4), .val (.int p5), .val (.int (p5 &&& (3 : Int32))), .val (.long kk48), .second, .val (.long kk30), .second, .val (.long kk19), .second, .val (.long kk40), .second, .val (.long (kk19 - kk30)), .second, .val (.ref bR), .val (.long kk261), .second, .val (.long ((2 : Int64) * kk19)), .second, .val (.double r278), .second, .val (.double r287), .second, .val (.double r298), .second] [(.double r287), (.double tm)])) _
    refine XS.dcmpS X7.here hx rfl (hb hby at_308) rfl rfl ?_
    show Steps p.tables e below (T7.setTop (mkF m 309 #[.val (.int p1), .val (.int p2), .val (.int p3), .val (.int p4), .val (.int p5), .val (.int (p5 &&& (3 : Int32))), .val (.long kk48), .second, .val (.long kk30), .second, .val (.long kk19), .second, .val (.long kk40), .second, .val (.long (kk19 - kk30)), .second, .val (.ref bR), .val (.long kk261), .second, .val (.long ((2 : Int64) * kk19)), .second, .val (.double r278), .second, .val (.double r287), .second, .val (.double r298), .second] [(.int (cmpValue (FP.dcmp tm r287) .l))])) _
    refine XS.ifNo X7.here hx rfl (hb hby at_309) rfl ((if0 _ _).trans (teq hq1).2) ?_
    show Steps p.tables e below (T7.setTop (mkF m 312 #[.val (.int p1), .val (.int p2), .val (.int p3), .val (.int p4), .val (.int p5), .val (.int (p5 &&& (3 : Int32))), .val (.long kk48), .second, .val (.long kk30), .second, .val (.long kk19), .second, .val (.long kk40), .second, .val (.long (kk19 - kk30)), .second, .val (.ref bR), .val (.long kk261), .second, .val (.long ((2 : Int64) * kk19)), .second, .val (.double r278), .second, .val (.double r287), .second, .val (.double r298), .second] [])) _
    refine XS.aload X7.here hx rfl (hb hby at_312) rfl rfl ?_
    show Steps p.tables e below (T7.setTop (mkF m 314 #[.val (.int p1), .val (.int p2), .val (.int p3), .val (.int p4), .val (.int p5), .val (.int (p5 &&& (3 : Int32))), .val (.long kk48), .second, .val (.long kk30), .second, .val (.long kk19), .second, .val (.long kk40), .second, .val (.long (kk19 - kk30)), .second, .val (.ref bR), .val (.long kk261), .second, .val (.long ((2 : Int64) * kk19)), .second, .val (.double r278), .second, .val (.double r287), .second, .val (.double r298), .second] [(.ref bR)])) _
    refine st8.trans ?_
    show Steps p.tables e below (T8.setTop (mkF m 317 #[.val (.int p1), .val (.int p2), .val (.int p3), .val (.int p4), .val (.int p5), .val (.int (p5 &&& (3 : Int32))), .val (.long kk48), .second, .val (.long kk30), .second, .val (.long kk19), .second, .val (.long kk40), .second, .val (.long (kk19 - kk30)), .second, .val (.ref bR), .val (.long kk261), .second, .val (.long ((2 : Int64) * kk19)), .second, .val (.double r278), .second, .val (.double r287), .second, .val (.double r298), .second] [(.double sl)])) _
    refine XS.dload X8.here hx rfl (hb hby at_317) rfl ?_
    show Steps p.tables e below (T8.setTop (mkF m 319 #[.val (.int p1), .val (.int p2), .val (.int p3), .val (.int p4), .val (.int p5), .val (.int (p5 &&& (3 : Int32))), .val (.long kk48), .second, .val (.long kk30), .second, .val (.long kk19), .second, .val (.long kk40), .second, .val (.long (kk19 - kk30)), .second, .val (.ref bR), .val (.long kk261), .second, .val (.long ((2 : Int64) * kk19)), .second, .val (.double r278), .second, .val (.double r287), .second, .val (.double r298), .second] [(.double r298), (.double sl)])) _
    refine XS.dcmpS X8.here hx rfl (hb hby at_319) rfl rfl ?_
    show Steps p.tables e below (T8.setTop (mkF m 320 #[.val (.int p1), .val (.int p2), .val (.int p3), .val (.int p4), .val (.int p5), .val (.int (p5 &&& (3 : Int32))), .val (.long kk48), .second, .val (.long kk30), .second, .val (.long kk19), .second, .val (.long kk40), .second, .val (.long (kk19 - kk30)), .second, .val (.ref bR), .val (.long kk261), .second, .val (.long ((2 : Int64) * kk19)), .second, .val (.double r278), .second, .val (.double r287), .second, .val (.double r298), .second] [(.int (cmpValue (FP.dcmp sl r298) .l))])) _
    refine XS.ifNo X8.here hx rfl (hb hby at_320) rfl ((if0 _ _).trans (teq hq2).2) ?_
    show Steps p.tables e below (T8.setTop (mkF m 323 #[.val (.int p1), .val (.int p2), .val (.int p3), .val (.int p4), .val (.int p5), .val (.int (p5 &&& (3 : Int32))), .val (.long kk48), .second, .val (.long kk30), .second, .val (.long kk19), .second, .val (.long kk40), .second, .val (.long (kk19 - kk30)), .second, .val (.ref bR), .val (.long kk261), .second, .val (.long ((2 : Int64) * kk19)), .second, .val (.double r278), .second, .val (.double r287), .second, .val (.double r298), .second] [])) _
    refine XS.iconst X8.here hx rfl (hb hby at_323) ?_
    show Steps p.tables e below (T8.setTop (mkF m 324 #[.val (.int p1), .val (.int p2), .val (.int p3), .val (.int p4), .val (.int p5), .val (.int (p5 &&& (3 : Int32))), .val (.long kk48), .second, .val (.long kk30), .second, .val (.long kk19), .second, .val (.long kk40), .second, .val (.long (kk19 - kk30)), .second, .val (.ref bR), .val (.long kk261), .second, .val (.long ((2 : Int64) * kk19)), .second, .val (.double r278), .second, .val (.double r287), .second, .val (.double r298), .second] [(.int (1 : Int32))])) _
    refine XS.goto X8.here hx rfl (pc0 := 324) (pc' := 328) rfl (hb hby at_324) (by decide) (by decide) ?_
    show Steps p.tables e below (T8.setTop (mkF m 328 #[.val (.int p1), .val (.int p2), .val (.int p3), .val (.int p4), .val (.int p5), .val (.int (p5 &&& (3 : Int32))), .val (.long kk48), .second, .val (.long kk30), .second, .val (.long kk19), .second, .val (.long kk40), .second, .val (.long (kk19 - kk30)), .second, .val (.ref bR), .val (.long kk261), .second, .val (.long ((2 : Int64) * kk19)), .second, .val (.double r278), .second, .val (.double r287), .second, .val (.double r298), .second] [(.int (1 : Int32))])) _
    exact retN X8 hx (t := .boolean) Bd.returns (by simp) (hb hby at_328) hr
  · show QL n0 _ T8.heap _
    exact ⟨rfl, N8⟩
set_option maxRecDepth 65536 in
set_option maxHeartbeats 40000000 in
theorem rm0_tfftff (l : Launch) (Z : State) (a0 : Array Value) (hw : ∀ d ∈ tables_1, d.before a0 Z = true) (ws : List Jvm.Cond) (p1 : Int32) (p2 : Int32) (p3 : Int32) (p4 : Int32) (p5 : Int32) (kk65 : Int64) (kk75 : Int64) (kk92 : Int64) (kk106 : Int64) (kk261 : Int64) (r278 : UInt64) (r287 : UInt64) (r294 : UInt64) (r298 : UInt64) (tm : UInt64) (sl : UInt64) (h0 : Heap) (n0 : Nat) (Z0 : n0 ≤ h0.size) (hc8 : ¬ ((p5 &&& (3 : Int32)) = (0 : Int32))) (hc56 : (p5 &&& (3 : Int32)) = (2 : Int32)) (hk65 : ((p2 &&& (1023 : Int32)).toInt64) = kk65) (hk75 : (((p3 &&& (1023 : Int32)) + (1 : Int32)).toInt64) = kk75) (hk92 : (((p4 &&& (1023 : Int32)) + (1 : Int32)).toInt64) = kk92) (hk106 : ((kk92 * kk75) + ((p1 &&& (32767 : Int32)).toInt64)) = kk106) (hc174 : (0 : Int32) < (lcmpW ((kk65 + kk75) - kk65) (0 : Int64))) (hc185 : ¬ ((lcmpW kk106 (kk92 * ((kk65 + kk75) - kk65))) < (0 : Int32))) (hk261 : ((((2 : Int64) * kk106) - (((kk65 + kk75) - kk65) * kk92)) + (2 : Int64)) = kk261) (hv278 : (FP.ddiv (FP.l2d (-kk92)) (4611686018427387904 : UInt64)) = r278) (hn278 : Jvm.Free.Fl.NoNaN64 (FP.ddiv (FP.l2d (-kk92)) (4611686018427387904 : UInt64))) (hv287 : (FP.ddiv (FP.l2d kk261) (FP.l2d ((2 : Int64) * (kk65 + kk75)))) = r287) (hn287 : Jvm.Free.Fl.NoNaN64 (FP.ddiv (FP.l2d kk261) (FP.l2d ((2 : Int64) * (kk65 + kk75))))) (hv294 : (FP.dsub r278 r287) = r294) (hn294 : Jvm.Free.Fl.NoNaN64 (FP.dsub r278 r287)) (hv298 : (FP.ddiv r294 (FP.l2d (kk65 + kk75))) = r298) (hn298 : Jvm.Free.Fl.NoNaN64 (FP.ddiv r294 (FP.l2d (kk65 + kk75)))) (hq1 : (cmpValue (FP.dcmp tm r287) .l) = (0 : Int32)) (hq2 : (cmpValue (FP.dcmp sl r298) .l) = (0 : Int32)) (hC : MetFree l (⟨"dev/tidemark/usage/WindowQueue", "approximateResponse", "(DDDD)Ldev/tidemark/usage/WindowQueue$Response;"⟩ : MethodName) (head1 (Jvm.Cond.code (⟨"dev/tidemark/usage/WindowQueue", "approximateResponse", "(DDDD)Ldev/tidemark/usage/WindowQueue$Response;"⟩ : MethodName) prog_66_method_7_code 16 (some (.object "dev/tidemark/usage/WindowQueue$Response")) :: []) ({ frames := 3, cells := 1, slots := 2, locals := 41 } : Room)) (fun a U => a = #[(.double (FP.l2d kk106)), (.double (FP.l2d kk65)), (.double (FP.l2d (kk65 + kk75))), (.double (FP.l2d kk92))] ∧ Z.Warmed39 U.vm ∧ U.heap = h0) (fun _ _ _ _ _ => True) (fun _ U o U' => ∃ v L, o = .returned v ∧ Q1 Z tm sl h0 n0 v U'.heap L ∧ FrameEnd U o U' L ({ frames := 3, cells := 1, slots := 2, locals := 41 } : Room).cells ({ frames := 3, cells := 1, slots := 2, locals := 41 } : Room).slots)) :
    MetFree l x (head1 (Jvm.Cond.code x code maxLocals ret :: ws) room_1) (fun a U => a = #[(.int p1), (.int p2), (.int p3), (.int p4), (.int p5)] ∧ Z.Warmed39 U.vm ∧ U.heap = h0) (fun _ _ _ _ _ => True) (fun _ U o U' => ∃ v L, o = .returned v ∧ QL n0 v U'.heap L ∧ FrameEnd U o U' L room_1.cells room_1.slots) := by
  refine MetFree.of_bodySF (plainFor_of_name pn_0) hisR ?_
  intro p e s m args below meth c s₁ Bd hml0 hP hK
  obtain ⟨rfl, hZ, hh⟩ := hP
  have hx := Bd.exec
  have hby := Bd.bytes
  have hml : c.maxLocals = 27 := hml0
  have hown : s.vm.findClass "dev/tidemark/usage/WindowQueueApproximateResponsePinLaw" = some m.cls := findClass_of_methodNamed Bd.named
  have hnm := (name_of_methodNamed Bd.named Bd.method).1
  have X0 : Stand p l e room_1 s m #[(.int p1), (.int p2), (.int p3), (.int p4), (.int p5)] below meth c s₁ [] 0 0 := Stand.of_body Bd
  have e0 : s₁.heap = h0 := by rw [← hh, Bd.state]; rfl
  have N0 := Fr.nil n0
  have pre0 : ∀ t, Steps p.tables e below (s₁.setTop (mkF m 0 #[.val (.int p1), .val (.int p2), .val (.int p3), .val (.int p4), .val (.int p5), .unset, .unset, .unset, .unset, .unset, .unset, .unset, .unset, .unset, .unset, .unset, .unset, .unset, .unset, .unset, .unset, .unset, .unset, .unset, .unset, .unset, .unset] [])) t → Steps p.tables e below (s₁.setTop (entryFrame m #[(.int p1), (.int p2), (.int p3), (.int p4), (.int p5)] maxLocals)) t := fun t k => castTop (ef_0 m p1 p2 p3 p4 p5) k
  obtain ⟨_, _, ⟨T6, L6, k6, n6⟩, -, X6, ⟨Lc6, hQ6, l6, y6, z6⟩, st6⟩ := Jvm.LawKit.callS X0 hx (y := (⟨"dev/tidemark/usage/WindowQueue", "approximateResponse", "(DDDD)Ldev/tidemark/usage/WindowQueue$Response;"⟩ : MethodName)) hown (mvT hZ (hw _ (List.mem_of_getElem? (i := 0) rfl))) (mvT hZ (hw _ (List.mem_of_getElem? (i := 1) rfl))) (mvT hZ (hw _ (List.mem_of_getElem? (i := 2) rfl))) (mvT hZ (hw _ (List.mem_of_getElem? (i := 3) rfl))) (by decide) (backOf (W := 0) hC hZ (hw _ (List.mem_of_getElem? (i := 3) rfl)) (hw _ (List.mem_of_getElem? (i := 2) rfl)) (by decide) (by decide)) (g := (mkF m 165 #[.val (.int p1), .val (.int p2), .val (.int p3), .val (.int p4), .val (.int p5), .val (.int (p5 &&& (3 : Int32))), .val (.long kk106), .second, .val (.long kk65), .second, .val (.long (kk65 + kk75)), .second, .val (.long kk92), .second, .val (.long ((kk65 + kk75) - kk65)), .second, .unset, .unset, .unset, .unset, .unset, .unset, .unset, .unset, .unset, .unset, .unset] [(.double (FP.l2d kk92)), (.double (FP.l2d (kk65 + kk75))), (.double (FP.l2d kk65)), (.double (FP.l2d kk106))])) rfl (by rw [hml]; rfl) (argsL := [(.double (FP.l2d kk106)), (.double (FP.l2d kk65)), (.double (FP.l2d (kk65 + kk75))), (.double (FP.l2d kk92))]) (rest := []) (lenOf pd_0_0 rfl) rfl (by show 2 * 0 + _ ≤ _; exact Nat.le_of_eq rfl) (hb hby at_165) (fun _ _ => ⟨rfl, e0, (by decide : 0 + 1 ≤ _), (by decide : 0 + 2 ≤ _)⟩)
  dsimp only [Pt.U, Pt.locs, Pt.cells, Pt.slots] at X6 l6 y6 z6 st6 hQ6
  subst l6 y6 z6
  obtain ⟨bR, rfl, N6q, K6c, E6, Ft6, Fs6⟩ := hQ6
  have Z6 : n0 ≤ T6.heap.size := Nat.le_trans Z0 K6c.1
  have N6 := Fr.app N0 N6q
  obtain ⟨cq7, kq7, q7a, q7b, q7c⟩ := isOf hZ rfl (E6.keep (Keep.refl _ []))
  obtain ⟨_, _, ⟨T7, L7, k7, n7⟩, -, X7, ⟨Lc7, hQ7, l7, y7, z7⟩, st7⟩ := X6.virtualBack hx (y := (⟨"dev/tidemark/usage/WindowQueue$Response", "time", "()D"⟩ : MethodName)) (z := (⟨"dev/tidemark/usage/WindowQueue$Response", "time", "()D"⟩ : MethodName)) hown (mvT hZ (hw _ (List.mem_of_getElem? (i := 25) rfl))) (mvT hZ (hw _ (List.mem_of_getElem? (i := 26) rfl))) (notFace_of_selects (args := #[]) (mvT hZ (hw _ (List.mem_of_getElem? (i := 28) rfl)))) (mvT hZ (hw _ (List.mem_of_getElem? (i := 28) rfl))) (mvT hZ (hw _ (List.mem_of_getElem? (i := 27) rfl))) (by decide) (backOf (W := 0) (rm5 l Z a0 hw [] bR tm T6.heap n0 Z6 Ft6) hZ (hw _ (List.mem_of_getElem? (i := 29) rfl)) (hw _ (List.mem_of_getElem? (i := 7) rfl)) (by decide) (by decide)) q7a q7c (g := (mkF m 303 #[.val (.int p1), .val (.int p2), .val (.int p3), .val (.int p4), .val (.int p5), .val (.int (p5 &&& (3 : Int32))), .val (.long kk106), .second, .val (.long kk65), .second, .val (.long (kk65 + kk75)), .second, .val (.long kk92), .second, .val (.long ((kk65 + kk75) - kk65)), .second, .val (.ref bR), .val (.long kk261), .second, .val (.long ((2 : Int64) * (kk65 + kk75))), .second, .val (.double r278), .second, .val (.double r287), .second, .val (.double r298), .second] [(.ref bR)])) rfl (by rw [hml]; rfl) (Steps.refl _) (argsL := []) (rest := []) (lenOf pd_0_3 rfl) rfl (by show 2 * 0 + _ ≤ _; exact Nat.le_of_eq rfl) (hb hby at_303) (fun _ _ => ⟨rfl, rfl, (by decide : 1 + 0 ≤ _), (by decide : 2 + 0 ≤ _)⟩)
  dsimp only [Pt.U, Pt.locs, Pt.cells, Pt.slots] at X7 l7 y7 z7 st7 hQ7
  subst l7 y7 z7
  obtain ⟨rfl, N7q, eh7⟩ := hQ7
  have K7c : Keep T6.heap T7.heap [] := by rw [eh7]; exact Keep.refl _ _
  have Z7 : n0 ≤ T7.heap.size := Nat.le_trans Z6 K7c.1
  have N7 := Fr.app N6 N7q
  obtain ⟨cq8, kq8, q8a, q8b, q8c⟩ := isOf hZ rfl ((E6.keep (Keep.refl _ [])).keep K7c)
  obtain ⟨_, _, ⟨T8, L8, k8, n8⟩, -, X8, ⟨Lc8, hQ8, l8, y8, z8⟩, st8⟩ := X7.virtualBack hx (y := (⟨"dev/tidemark/usage/WindowQueue$Response", "slope", "()D"⟩ : MethodName)) (z := (⟨"dev/tidemark/usage/WindowQueue$Response", "slope", "()D"⟩ : MethodName)) hown (mvT hZ (hw _ (List.mem_of_getElem? (i := 30) rfl))) (mvT hZ (hw _ (List.mem_of_getElem? (i := 31) rfl))) (notFace_of_selects (args := #[]) (mvT hZ (hw _ (List.mem_of_getElem? (i := 33) rfl)))) (mvT hZ (hw _ (List.mem_of_getElem? (i := 33) rfl))) (mvT hZ (hw _ (List.mem_of_getElem? (i := 32) rfl))) (by decide) (backOf (W := 0) (rm6 l Z a0 hw [] bR sl T7.heap n0 Z7 (Fs6.keep K7c (by simp))) hZ (hw _ (List.mem_of_getElem? (i := 34) rfl)) (hw _ (List.mem_of_getElem? (i := 7) rfl)) (by decide) (by decide)) q8a q8c (g := (mkF m 314 #[.val (.int p1), .val (.int p2), .val (.int p3), .val (.int p4), .val (.int p5), .val (.int (p5 &&& (3 : Int32))), .val (.long kk106), .second, .val (.long kk65), .second, .val (.long (kk65 + kk75)), .second, .val (.long kk92), .second, .val (.long ((kk65 + kk75) - kk65)), .second, .val (.ref bR), .val (.long kk261), .second, .val (.long ((2 : Int64) * (kk65 + kk75))), .second, .val (.double r278), .second, .val (.double r287), .second, .val (.double r298), .second] [(.ref bR)])) rfl (by rw [hml]; rfl) (Steps.refl _) (argsL := []) (rest := []) (lenOf pd_0_3 rfl) rfl (by show 2 * 0 + _ ≤ _; exact Nat.le_of_eq rfl) (hb hby at_314) (fun _ _ => ⟨rfl, rfl, (by decide : 1 + 0 ≤ _), (by decide : 2 + 0 ≤ _)⟩)
  dsimp only [Pt.U, Pt.locs, Pt.cells, Pt.slots] at X8 l8 y8 z8 st8 hQ8
  subst l8 y8 z8
  obtain ⟨rfl, N8q, eh8⟩ := hQ8
  have N8 := Fr.app N7 N8q
  obtain ⟨fs, hr, hrun, hended, hW, hsame⟩ := X8.leave (v := some (.int (1 : Int32))) (fun h => by rw [Bd.returns] at h; cases h)
  refine ⟨_, _, pre0 _ ?_, hrun, hended, _, _, rfl, ?_, ⟨_, rfl⟩, hW, hsame.mono (by decide) (by decide)⟩
  · show Steps p.tables e below (s₁.setTop (mkF m 0 #[.val (.int p1), .val (.int p2), .val (.int p3), .val (.int p4), .val (.int p5), .unset, .unset, .unset, .unset, .unset, .unset, .unset, .unset, .unset, .unset, .unset, .unset, .unset, .unset, .unset, .unset, .unset, .unset, .unset, .unset, .unset, .unset] [])) _
    refine XS.iload X0.here hx rfl (hb hby at_0) rfl ?_
    show Steps p.tables e below (s₁.setTop (mkF m 2 #[.val (.int p1), .val (.int p2), .val (.int p3), .val (.int p4), .val (.int p5), .unset, .unset, .unset, .unset, .unset, .unset, .unset, .unset, .unset, .unset, .unset, .unset, .unset, .unset, .unset, .unset, .unset, .unset, .unset, .unset, .unset, .unset] [(.int p5)])) _
    refine XS.iconst X0.here hx rfl (hb hby at_2) ?_
    show Steps p.tables e below (s₁.setTop (mkF m 3 #[.val (.int p1), .val (.int p2), .val (.int p3), .val (.int p4), .val (.int p5), .unset, .unset, .unset, .unset, .unset, .unset, .unset, .unset, .unset, .unset, .unset, .unset, .unset, .unset, .unset, .unset, .unset, .unset, .unset, .unset, .unset, .unset] [(.int (3 : Int32)), (.int p5)])) _
    refine XS.iand X0.here hx rfl (hb hby at_3) rfl ?_
    show Steps p.tables e below (s₁.setTop (mkF m 4 #[.val (.int p1), .val (.int p2), .val (.int p3), .val (.int p4), .val (.int p5), .unset, .unset, .unset, .unset, .unset, .unset, .unset, .unset, .unset, .unset, .unset, .unset, .unset, .unset, .unset, .unset, .unset, .unset, .unset, .unset, .unset, .unset] [(.int (p5 &&& (3 : Int32)))])) _
    refine XS.istore X0.here hx rfl (hb hby at_4) rfl (l' := #[.val (.int p1), .val (.int p2), .val (.int p3), .val (.int p4), .val (.int p5), .val (.int (p5 &&& (3 : Int32))), .unset, .unset, .unset, .unset, .unset, .unset, .unset, .unset, .unset, .unset, .unset, .unset, .unset, .unset, .unset, .unset, .unset, .unset, .unset, .unset, .unset]) rfl ?_
    show Steps p.tables e below (s₁.setTop (mkF m 6 #[.val (.int p1), .val (.int p2), .val (.int p3), .val (.int p4), .val (.int p5), .val (.int (p5 &&& (3 : Int32))), .unset, .unset, .unset, .unset, .unset, .unset, .unset, .unset, .unset, .unset, .unset, .unset, .unset, .unset, .unset, .unset, .unset, .unset, .unset, .unset, .unset] [])) _
    refine XS.iload X0.here hx rfl (hb hby at_6) rfl ?_
    show Steps p.tables e below (s₁.setTop (mkF m 8 #[.val (.int p1), .val (.int p2), .val (.int p3), .val (.int p4), .val (.int p5), .val (.int (p5 &&& (3 : Int32))), .unset, .unset, .unset, .unset, .unset, .unset, .unset, .unset, .unset, .unset, .unset, .unset, .unset, .unset, .unset, .unset, .unset, .unset, .unset, .unset, .unset] [(.int (p5 &&& (3 : Int32)))])) _
    refine XS.ifYes X0.here hx rfl (pc0 := 8) (pc' := 53) rfl (hb hby at_8) rfl ((if0 _ _).trans (feq hc8).2) (by decide) (by decide) ?_
    show Steps p.tables e below (s₁.setTop (mkF m 53 #[.val (.int p1), .val (.int p2), .val (.int p3), .val (.int p4), .val (.int p5), .val (.int (p5 &&& (3 : Int32))), .unset, .unset, .unset, .unset, .unset, .unset, .unset, .unset, .unset, .unset, .unset, .unset, .unset, .unset, .unset, .unset, .unset, .unset, .unset, .unset, .unset] [])) _
    refine XS.iload X0.here hx rfl (hb hby at_53) rfl ?_
    show Steps p.tables e below (s₁.setTop (mkF m 55 #[.val (.int p1), .val (.int p2), .val (.int p3), .val (.int p4), .val (.int p5), .val (.int (p5 &&& (3 : Int32))), .unset, .unset, .unset, .unset, .unset, .unset, .unset, .unset, .unset, .unset, .unset, .unset, .unset, .unset, .unset, .unset, .unset, .unset, .unset, .unset, .unset] [(.int (p5 &&& (3 : Int32)))])) _
    refine XS.iconst X0.here hx rfl (hb hby at_55) ?_
    show Steps p.tables e below (s₁.setTop (mkF m 56 #[.val (.int p1), .val (.int p2), .val (.int p3), .val (.int p4), .val (.int p5), .val (.int (p5 &&& (3 : Int32))), .unset, .unset, .unset, .unset, .unset, .unset, .unset, .unset, .unset, .unset, .unset, .unset, .unset, .unset, .unset, .unset, .unset, .unset, .unset, .unset, .unset] [(.int (2 : Int32)), (.int (p5 &&& (3 : Int32)))])) _
    refine XS.icmpNo X0.here hx rfl (hb hby at_56) rfl (teq hc56).2 ?_
    show Steps p.tables e below (s₁.setTop (mkF m 59 #[.val (.int p1), .val (.int p2), .val (.int p3), .val (.int p4), .val (.int p5), .val (.int (p5 &&& (3 : Int32))), .unset, .unset, .unset, .unset, .unset, .unset, .unset, .unset, .unset, .unset, .unset, .unset, .unset, .unset, .unset, .unset, .unset, .unset, .unset, .unset, .unset] [])) _
    refine XS.iloadN X0.here hx rfl (hb hby at_59) rfl ?_
    show Steps p.tables e below (s₁.setTop (mkF m 60 #[.val (.int p1), .val (.int p2), .val (.int p3), .val (.int p4), .val (.int p5), .val (.int (p5 &&& (3 : Int32))), .unset, .unset, .unset, .unset, .unset, .unset, .unset, .unset, .unset, .unset, .unset, .unset, .unset, .unset, .unset, .unset, .unset, .unset, .unset, .unset, .unset] [(.int p2)])) _
    refine XS.sipush X0.here hx rfl (hb hby at_60) ?_
    show Steps p.tables e below (s₁.setTop (mkF m 63 #[.val (.int p1), .val (.int p2), .val (.int p3), .val (.int p4), .val (.int p5), .val (.int (p5 &&& (3 : Int32))), .unset, .unset, .unset, .unset, .unset, .unset, .unset, .unset, .unset, .unset, .unset, .unset, .unset, .unset, .unset, .unset, .unset, .unset, .unset, .unset, .unset] [(.int (1023 : Int32)), (.int p2)])) _
    refine XS.iand X0.here hx rfl (hb hby at_63) rfl ?_
    show Steps p.tables e below (s₁.setTop (mkF m 64 #[.val (.int p1), .val (.int p2), .val (.int p3), .val (.int p4), .val (.int p5), .val (.int (p5 &&& (3 : Int32))), .unset, .unset, .unset, .unset, .unset, .unset, .unset, .unset, .unset, .unset, .unset, .unset, .unset, .unset, .unset, .unset, .unset, .unset, .unset, .unset, .unset] [(.int (p2 &&& (1023 : Int32)))])) _
    refine XS.i2l X0.here hx rfl (hb hby at_64) rfl ?_
    show Steps p.tables e below (s₁.setTop (mkF m 65 #[.val (.int p1), .val (.int p2), .val (.int p3), .val (.int p4), .val (.int p5), .val (.int (p5 &&& (3 : Int32))), .unset, .unset, .unset, .unset, .unset, .unset, .unset, .unset, .unset, .unset, .unset, .unset, .unset, .unset, .unset, .unset, .unset, .unset, .unset, .unset, .unset] [(.long ((p2 &&& (1023 : Int32)).toInt64))])) _
    refine XS.lstore X0.here hx rfl (hb hby at_65) rfl (l' := #[.val (.int p1), .val (.int p2), .val (.int p3), .val (.int p4), .val (.int p5), .val (.int (p5 &&& (3 : Int32))), .unset, .unset, .val (.long ((p2 &&& (1023 : Int32)).toInt64)), .second, .unset, .unset, .unset, .unset, .unset, .unset, .unset, .unset, .unset, .unset, .unset, .unset, .unset, .unset, .unset, .unset, .unset]) rfl ?_
    show Steps p.tables e below (s₁.setTop (mkF m 67 #[.val (.int p1), .val (.int p2), .val (.int p3), .val (.int p4), .val (.int p5), .val (.int (p5 &&& (3 : Int32))), .unset, .unset, .val (.long ((p2 &&& (1023 : Int32)).toInt64)), .second, .unset, .unset, .unset, .unset, .unset, .unset, .unset, .unset, .unset, .unset, .unset, .unset, .unset, .unset, .unset, .unset, .unset] [])) _
    rw [hk65]
    show Steps p.tables e below (s₁.setTop (mkF m 67 #[.val (.int p1), .val (.int p2), .val (.int p3), .val (.int p4), .val (.int p5), .val (.int (p5 &&& (3 : Int32))), .unset, .unset, .val (.long kk65), .second, .unset, .unset, .unset, .unset, .unset, .unset, .unset, .unset, .unset, .unset, .unset, .unset, .unset, .unset, .unset, .unset, .unset] [])) _
    refine XS.iloadN X0.here hx rfl (hb hby at_67) rfl ?_
    show Steps p.tables e below (s₁.setTop (mkF m 68 #[.val (.int p1), .val (.int p2), .val (.int p3), .val (.int p4), .val (.int p5), .val (.int (p5 &&& (3 : Int32))), .unset, .unset, .val (.long kk65), .second, .unset, .unset, .unset, .unset, .unset, .unset, .unset, .unset, .unset, .unset, .unset, .unset, .unset, .unset, .unset, .unset, .unset] [(.int p3)])) _
    refine XS.sipush X0.here hx rfl (hb hby at_68) ?_
    show Steps p.tables e below (s₁.setTop (mkF m 71 #[.val (.int p1), .val (.int p2), .val (.int p3), .val (.int p4), .val (.int p5), .val (.int (p5 &&& (3 : Int32))), .unset, .unset, .val (.long kk65), .second, .unset, .unset, .unset, .unset, .unset, .unset, .unset, .unset, .unset, .unset, .unset, .unset, .unset, .unset, .unset, .unset, .unset] [(.int (1023 : Int32)), (.int p3)])) _
    refine XS.iand X0.here hx rfl (hb hby at_71) rfl ?_
    show Steps p.tables e below (s₁.setTop (mkF m 72 #[.val (.int p1), .val (.int p2), .val (.int p3), .val (.int p4), .val (.int p5), .val (.int (p5 &&& (3 : Int32))), .unset, .unset, .val (.long kk65), .second, .unset, .unset, .unset, .unset, .unset, .unset, .unset, .unset, .unset, .unset, .unset, .unset, .unset, .unset, .unset, .unset, .unset] [(.int (p3 &&& (1023 : Int32)))])) _
    refine XS.iconst X0.here hx rfl (hb hby at_72) ?_
    show Steps p.tables e below (s₁.setTop (mkF m 73 #[.val (.int p1), .val (.int p2), .val (.int p3), .val (.int p4), .val (.int p5), .val (.int (p5 &&& (3 : Int32))), .unset, .unset, .val (.long kk65), .second, .unset, .unset, .unset, .unset, .unset, .unset, .unset, .unset, .unset, .unset, .unset, .unset, .unset, .unset, .unset, .unset, .unset] [(.int (1 : Int32)), (.int (p3 &&& (1023 : Int32)))])) _
    refine XS.iadd X0.here hx rfl (hb hby at_73) rfl ?_
    show Steps p.tables e below (s₁.setTop (mkF m 74 #[.val (.int p1), .val (.int p2), .val (.int p3), .val (.int p4), .val (.int p5), .val (.int (p5 &&& (3 : Int32))), .unset, .unset, .val (.long kk65), .second, .unset, .unset, .unset, .unset, .unset, .unset, .unset, .unset, .unset, .unset, .unset, .unset, .unset, .unset, .unset, .unset, .unset] [(.int ((p3 &&& (1023 : Int32)) + (1 : Int32)))])) _
    refine XS.i2l X0.here hx rfl (hb hby at_74) rfl ?_
    show Steps p.tables e below (s₁.setTop (mkF m 75 #[.val (.int p1), .val (.int p2), .val (.int p3), .val (.int p4), .val (.int p5), .val (.int (p5 &&& (3 : Int32))), .unset, .unset, .val (.long kk65), .second, .unset, .unset, .unset, .unset, .unset, .unset, .unset, .unset, .unset, .unset, .unset, .unset, .unset, .unset, .unset, .unset, .unset] [(.long (((p3 &&& (1023 : Int32)) + (1 : Int32)).toInt64))])) _
    refine XS.lstore X0.here hx rfl (hb hby at_75) rfl (l' := #[.val (.int p1), .val (.int p2), .val (.int p3), .val (.int p4), .val (.int p5), .val (.int (p5 &&& (3 : Int32))), .unset, .unset, .val (.long kk65), .second, .unset, .unset, .unset, .unset, .val (.long (((p3 &&& (1023 : Int32)) + (1 : Int32)).toInt64)), .second, .unset, .unset, .unset, .unset, .unset, .unset, .unset, .unset, .unset, .unset, .unset]) rfl ?_
    show Steps p.tables e below (s₁.setTop (mkF m 77 #[.val (.int p1), .val (.int p2), .val (.int p3), .val (.int p4), .val (.int p5), .val (.int (p5 &&& (3 : Int32))), .unset, .unset, .val (.long kk65), .second, .unset, .unset, .unset, .unset, .val (.long (((p3 &&& (1023 : Int32)) + (1 : Int32)).toInt64)), .second, .unset, .unset, .unset, .unset, .unset, .unset, .unset, .unset, .unset, .unset, .unset] [])) _
    rw [hk75]
    show Steps p.tables e below (s₁.setTop (mkF m 77 #[.val (.int p1), .val (.int p2), .val (.int p3), .val (.int p4), .val (.int p5), .val (.int (p5 &&& (3 : Int32))), .unset, .unset, .val (.long kk65), .second, .unset, .unset, .unset, .unset, .val (.long kk75), .second, .unset, .unset, .unset, .unset, .unset, .unset, .unset, .unset, .unset, .unset, .unset] [])) _
    refine XS.lload X0.here hx rfl (hb hby at_77) rfl ?_
    show Steps p.tables e below (s₁.setTop (mkF m 79 #[.val (.int p1), .val (.int p2), .val (.int p3), .val (.int p4), .val (.int p5), .val (.int (p5 &&& (3 : Int32))), .unset, .unset, .val (.long kk65), .second, .unset, .unset, .unset, .unset, .val (.long kk75), .second, .unset, .unset, .unset, .unset, .unset, .unset, .unset, .unset, .unset, .unset, .unset] [(.long kk65)])) _
    refine XS.lload X0.here hx rfl (hb hby at_79) rfl ?_
    show Steps p.tables e below (s₁.setTop (mkF m 81 #[.val (.int p1), .val (.int p2), .val (.int p3), .val (.int p4), .val (.int p5), .val (.int (p5 &&& (3 : Int32))), .unset, .unset, .val (.long kk65), .second, .unset, .unset, .unset, .unset, .val (.long kk75), .second, .unset, .unset, .unset, .unset, .unset, .unset, .unset, .unset, .unset, .unset, .unset] [(.long kk75), (.long kk65)])) _
    refine XS.ladd X0.here hx rfl (hb hby at_81) rfl ?_
    show Steps p.tables e below (s₁.setTop (mkF m 82 #[.val (.int p1), .val (.int p2), .val (.int p3), .val (.int p4), .val (.int p5), .val (.int (p5 &&& (3 : Int32))), .unset, .unset, .val (.long kk65), .second, .unset, .unset, .unset, .unset, .val (.long kk75), .second, .unset, .unset, .unset, .unset, .unset, .unset, .unset, .unset, .unset, .unset, .unset] [(.long (kk65 + kk75))])) _
    refine XS.lstore X0.here hx rfl (hb hby at_82) rfl (l' := #[.val (.int p1), .val (.int p2), .val (.int p3), .val (.int p4), .val (.int p5), .val (.int (p5 &&& (3 : Int32))), .unset, .unset, .val (.long kk65), .second, .val (.long (kk65 + kk75)), .second, .unset, .unset, .val (.long kk75), .second, .unset, .unset, .unset, .unset, .unset, .unset, .unset, .unset, .unset, .unset, .unset]) rfl ?_
    show Steps p.tables e below (s₁.setTop (mkF m 84 #[.val (.int p1), .val (.int p2), .val (.int p3), .val (.int p4), .val (.int p5), .val (.int (p5 &&& (3 : Int32))), .unset, .unset, .val (.long kk65), .second, .val (.long (kk65 + kk75)), .second, .unset, .unset, .val (.long kk75), .second, .unset, .unset, .unset, .unset, .unset, .unset, .unset, .unset, .unset, .unset, .unset] [])) _
    refine XS.iloadN X0.here hx rfl (hb hby at_84) rfl ?_
    show Steps p.tables e below (s₁.setTop (mkF m 85 #[.val (.int p1), .val (.int p2), .val (.int p3), .val (.int p4), .val (.int p5), .val (.int (p5 &&& (3 : Int32))), .unset, .unset, .val (.long kk65), .second, .val (.long (kk65 + kk75)), .second, .unset, .unset, .val (.long kk75), .second, .unset, .unset, .unset, .unset, .unset, .unset, .unset, .unset, .unset, .unset, .unset] [(.int p4)])) _
    refine XS.sipush X0.here hx rfl (hb hby at_85) ?_
    show Steps p.tables e below (s₁.setTop (mkF m 88 #[.val (.int p1), .val (.int p2), .val (.int p3), .val (.int p4), .val (.int p5), .val (.int (p5 &&& (3 : Int32))), .unset, .unset, .val (.long kk65), .second, .val (.long (kk65 + kk75)), .second, .unset, .unset, .val (.long kk75), .second, .unset, .unset, .unset, .unset, .unset, .unset, .unset, .unset, .unset, .unset, .unset] [(.int (1023 : Int32)), (.int p4)])) _
    refine XS.iand X0.here hx rfl (hb hby at_88) rfl ?_
    show Steps p.tables e below (s₁.setTop (mkF m 89 #[.val (.int p1), .val (.int p2), .val (.int p3), .val (.int p4), .val (.int p5), .val (.int (p5 &&& (3 : Int32))), .unset, .unset, .val (.long kk65), .second, .val (.long (kk65 + kk75)), .second, .unset, .unset, .val (.long kk75), .second, .unset, .unset, .unset, .unset, .unset, .unset, .unset, .unset, .unset, .unset, .unset] [(.int (p4 &&& (1023 : Int32)))])) _
    refine XS.iconst X0.here hx rfl (hb hby at_89) ?_
    show Steps p.tables e below (s₁.setTop (mkF m 90 #[.val (.int p1), .val (.int p2), .val (.int p3), .val (.int p4), .val (.int p5), .val (.int (p5 &&& (3 : Int32))), .unset, .unset, .val (.long kk65), .second, .val (.long (kk65 + kk75)), .second, .unset, .unset, .val (.long kk75), .second, .unset, .unset, .unset, .unset, .unset, .unset, .unset, .unset, .unset, .unset, .unset] [(.int (1 : Int32)), (.int (p4 &&& (1023 : Int32)))])) _
    refine XS.iadd X0.here hx rfl (hb hby at_90) rfl ?_
    show Steps p.tables e below (s₁.setTop (mkF m 91 #[.val (.int p1), .val (.int p2), .val (.int p3), .val (.int p4), .val (.int p5), .val (.int (p5 &&& (3 : Int32))), .unset, .unset, .val (.long kk65), .second, .val (.long (kk65 + kk75)), .second, .unset, .unset, .val (.long kk75), .second, .unset, .unset, .unset, .unset, .unset, .unset, .unset, .unset, .unset, .unset, .unset] [(.int ((p4 &&& (1023 : Int32)) + (1 : Int32)))])) _
    refine XS.i2l X0.here hx rfl (hb hby at_91) rfl ?_
    show Steps p.tables e below (s₁.setTop (mkF m 92 #[.val (.int p1), .val (.int p2), .val (.int p3), .val (.int p4), .val (.int p5), .val (.int (p5 &&& (3 : Int32))), .unset, .unset, .val (.long kk65), .second, .val (.long (kk65 + kk75)), .second, .unset, .unset, .val (.long kk75), .second, .unset, .unset, .unset, .unset, .unset, .unset, .unset, .unset, .unset, .unset, .unset] [(.long (((p4 &&& (1023 : Int32)) + (1 : Int32)).toInt64))])) _
    refine XS.lstore X0.here hx rfl (hb hby at_92) rfl (l' := #[.val (.int p1), .val (.int p2), .val (.int p3), .val (.int p4), .val (.int p5), .val (.int (p5 &&& (3 : Int32))), .unset, .unset, .val (.long kk65), .second, .val (.long (kk65 + kk75)), .second, .val (.long (((p4 &&& (1023 : Int32)) + (1 : Int32)).toInt64)), .second, .val (.long kk75), .second, .unset, .unset, .unset, .unset, .unset, .unset, .unset, .unset, .unset, .unset, .unset]) rfl ?_
    show Steps p.tables e below (s₁.setTop (mkF m 94 #[.val (.int p1), .val (.int p2), .val (.int p3), .val (.int p4), .val (.int p5), .val (.int (p5 &&& (3 : Int32))), .unset, .unset, .val (.long kk65), .second, .val (.long (kk65 + kk75)), .second, .val (.long (((p4 &&& (1023 : Int32)) + (1 : Int32)).toInt64)), .second, .val (.long kk75), .second, .unset, .unset, .unset, .unset, .unset, .unset, .unset, .unset, .unset, .unset, .unset] [])) _
    rw [hk92]
    show Steps p.tables e below (s₁.setTop (mkF m 94 #[.val (.int p1), .val (.int p2), .val (.int p3), .val (.int p4), .val (.int p5), .val (.int (p5 &&& (3 : Int32))), .unset, .unset, .val (.long kk65), .second, .val (.long (kk65 + kk75)), .second, .val (.long kk92), .second, .val (.long kk75), .second, .unset, .unset, .unset, .unset, .unset, .unset, .unset, .unset, .unset, .unset, .unset] [])) _
    refine XS.lload X0.here hx rfl (hb hby at_94) rfl ?_
    show Steps p.tables e below (s₁.setTop (mkF m 96 #[.val (.int p1), .val (.int p2), .val (.int p3), .val (.int p4), .val (.int p5), .val (.int (p5 &&& (3 : Int32))), .unset, .unset, .val (.long kk65), .second, .val (.long (kk65 + kk75)), .second, .val (.long kk92), .second, .val (.long kk75), .second, .unset, .unset, .unset, .unset, .unset, .unset, .unset, .unset, .unset, .unset, .unset] [(.long kk92)])) _
    refine XS.lload X0.here hx rfl (hb hby at_96) rfl ?_
    show Steps p.tables e below (s₁.setTop (mkF m 98 #[.val (.int p1), .val (.int p2), .val (.int p3), .val (.int p4), .val (.int p5), .val (.int (p5 &&& (3 : Int32))), .unset, .unset, .val (.long kk65), .second, .val (.long (kk65 + kk75)), .second, .val (.long kk92), .second, .val (.long kk75), .second, .unset, .unset, .unset, .unset, .unset, .unset, .unset, .unset, .unset, .unset, .unset] [(.long kk75), (.long kk92)])) _
    refine XS.lmul X0.here hx rfl (hb hby at_98) rfl ?_
    show Steps p.tables e below (s₁.setTop (mkF m 99 #[.val (.int p1), .val (.int p2), .val (.int p3), .val (.int p4), .val (.int p5), .val (.int (p5 &&& (3 : Int32))), .unset, .unset, .val (.long kk65), .second, .val (.long (kk65 + kk75)), .second, .val (.long kk92), .second, .val (.long kk75), .second, .unset, .unset, .unset, .unset, .unset, .unset, .unset, .unset, .unset, .unset, .unset] [(.long (kk92 * kk75))])) _
    refine XS.iloadN X0.here hx rfl (hb hby at_99) rfl ?_
    show Steps p.tables e below (s₁.setTop (mkF m 100 #[.val (.int p1), .val (.int p2), .val (.int p3), .val (.int p4), .val (.int p5), .val (.int (p5 &&& (3 : Int32))), .unset, .unset, .val (.long kk65), .second, .val (.long (kk65 + kk75)), .second, .val (.long kk92), .second, .val (.long kk75), .second, .unset, .unset, .unset, .unset, .unset, .unset, .unset, .unset, .unset, .unset, .unset] [(.int p1), (.long (kk92 * kk75))])) _
    refine XS.sipush X0.here hx rfl (hb hby at_100) ?_
    show Steps p.tables e below (s₁.setTop (mkF m 103 #[.val (.int p1), .val (.int p2), .val (.int p3), .val (.int p4), .val (.int p5), .val (.int (p5 &&& (3 : Int32))), .unset, .unset, .val (.long kk65), .second, .val (.long (kk65 + kk75)), .second, .val (.long kk92), .second, .val (.long kk75), .second, .unset, .unset, .unset, .unset, .unset, .unset, .unset, .unset, .unset, .unset, .unset] [(.int (32767 : Int32)), (.int p1), (.long (kk92 * kk75))])) _
    refine XS.iand X0.here hx rfl (hb hby at_103) rfl ?_
    show Steps p.tables e below (s₁.setTop (mkF m 104 #[.val (.int p1), .val (.int p2), .val (.int p3), .val (.int p4), .val (.int p5), .val (.int (p5 &&& (3 : Int32))), .unset, .unset, .val (.long kk65), .second, .val (.long (kk65 + kk75)), .second, .val (.long kk92), .second, .val (.long kk75), .second, .unset, .unset, .unset, .unset, .unset, .unset, .unset, .unset, .unset, .unset, .unset] [(.int (p1 &&& (32767 : Int32))), (.long (kk92 * kk75))])) _
    refine XS.i2l X0.here hx rfl (hb hby at_104) rfl ?_
    show Steps p.tables e below (s₁.setTop (mkF m 105 #[.val (.int p1), .val (.int p2), .val (.int p3), .val (.int p4), .val (.int p5), .val (.int (p5 &&& (3 : Int32))), .unset, .unset, .val (.long kk65), .second, .val (.long (kk65 + kk75)), .second, .val (.long kk92), .second, .val (.long kk75), .second, .unset, .unset, .unset, .unset, .unset, .unset, .unset, .unset, .unset, .unset, .unset] [(.long ((p1 &&& (32767 : Int32)).toInt64)), (.long (kk92 * kk75))])) _
    refine XS.ladd X0.here hx rfl (hb hby at_105) rfl ?_
    show Steps p.tables e below (s₁.setTop (mkF m 106 #[.val (.int p1), .val (.int p2), .val (.int p3), .val (.int p4), .val (.int p5), .val (.int (p5 &&& (3 : Int32))), .unset, .unset, .val (.long kk65), .second, .val (.long (kk65 + kk75)), .second, .val (.long kk92), .second, .val (.long kk75), .second, .unset, .unset, .unset, .unset, .unset, .unset, .unset, .unset, .unset, .unset, .unset] [(.long ((kk92 * kk75) + ((p1 &&& (32767 : Int32)).toInt64)))])) _
    refine XS.lstore X0.here hx rfl (hb hby at_106) rfl (l' := #[.val (.int p1), .val (.int p2), .val (.int p3), .val (.int p4), .val (.int p5), .val (.int (p5 &&& (3 : Int32))), .val (.long ((kk92 * kk75) + ((p1 &&& (32767 : Int32)).toInt64))), .second, .val (.long kk65), .second, .val (.long (kk65 + kk75)), .second, .val (.long kk92), .second, .val (.long kk75), .second, .unset, .unset, .unset, .unset, .unset, .unset, .unset, .unset, .unset, .unset, .unset]) rfl ?_
    show Steps p.tables e below (s₁.setTop (mkF m 108 #[.val (.int p1), .val (.int p2), .val (.int p3), .val (.int p4), .val (.int p5), .val (.int (p5 &&& (3 : Int32))), .val (.long ((kk92 * kk75) + ((p1 &&& (32767 : Int32)).toInt64))), .second, .val (.long kk65), .second, .val (.long (kk65 + kk75)), .second, .val (.long kk92), .second, .val (.long kk75), .second, .unset, .unset, .unset, .unset, .unset, .unset, .unset, .unset, .unset, .unset, .unset] [])) _
    rw [hk106]
    show Steps p.tables e below (s₁.setTop (mkF m 108 #[.val (.int p1), .val (.int p2), .val (.int p3), .val (.int p4), .val (.int p5), .val (.int (p5 &&& (3 : Int32))), .val (.long kk106), .second, .val (.long kk65), .second, .val (.long (kk65 + kk75)), .second, .val (.long kk92), .second, .val (.long kk75), .second, .unset, .unset, .unset, .unset, .unset, .unset, .unset, .unset, .unset, .unset, .unset] [])) _
    refine XS.goto X0.here hx rfl (pc0 := 108) (pc' := 146) rfl (hb hby at_108) (by decide) (by decide) ?_
    show Steps p.tables e below (s₁.setTop (mkF m 146 #[.val (.int p1), .val (.int p2), .val (.int p3), .val (.int p4), .val (.int p5), .val (.int (p5 &&& (3 : Int32))), .val (.long kk106), .second, .val (.long kk65), .second, .val (.long (kk65 + kk75)), .second, .val (.long kk92), .second, .val (.long kk75), .second, .unset, .unset, .unset, .unset, .unset, .unset, .unset, .unset, .unset, .unset, .unset] [])) _
    refine XS.lload X0.here hx rfl (hb hby at_146) rfl ?_
    show Steps p.tables e below (s₁.setTop (mkF m 148 #[.val (.int p1), .val (.int p2), .val (.int p3), .val (.int p4), .val (.int p5), .val (.int (p5 &&& (3 : Int32))), .val (.long kk106), .second, .val (.long kk65), .second, .val (.long (kk65 + kk75)), .second, .val (.long kk92), .second, .val (.long kk75), .second, .unset, .unset, .unset, .unset, .unset, .unset, .unset, .unset, .unset, .unset, .unset] [(.long (kk65 + kk75))])) _
    refine XS.lload X0.here hx rfl (hb hby at_148) rfl ?_
    show Steps p.tables e below (s₁.setTop (mkF m 150 #[.val (.int p1), .val (.int p2), .val (.int p3), .val (.int p4), .val (.int p5), .val (.int (p5 &&& (3 : Int32))), .val (.long kk106), .second, .val (.long kk65), .second, .val (.long (kk65 + kk75)), .second, .val (.long kk92), .second, .val (.long kk75), .second, .unset, .unset, .unset, .unset, .unset, .unset, .unset, .unset, .unset, .unset, .unset] [(.long kk65), (.long (kk65 + kk75))])) _
    refine XS.lsub X0.here hx rfl (hb hby at_150) rfl ?_
    show Steps p.tables e below (s₁.setTop (mkF m 151 #[.val (.int p1), .val (.int p2), .val (.int p3), .val (.int p4), .val (.int p5), .val (.int (p5 &&& (3 : Int32))), .val (.long kk106), .second, .val (.long kk65), .second, .val (.long (kk65 + kk75)), .second, .val (.long kk92), .second, .val (.long kk75), .second, .unset, .unset, .unset, .unset, .unset, .unset, .unset, .unset, .unset, .unset, .unset] [(.long ((kk65 + kk75) - kk65))])) _
    refine XS.lstore X0.here hx rfl (hb hby at_151) rfl (l' := #[.val (.int p1), .val (.int p2), .val (.int p3), .val (.int p4), .val (.int p5), .val (.int (p5 &&& (3 : Int32))), .val (.long kk106), .second, .val (.long kk65), .second, .val (.long (kk65 + kk75)), .second, .val (.long kk92), .second, .val (.long ((kk65 + kk75) - kk65)), .second, .unset, .unset, .unset, .unset, .unset, .unset, .unset, .unset, .unset, .unset, .unset]) rfl ?_
    show Steps p.tables e below (s₁.setTop (mkF m 153 #[.val (.int p1), .val (.int p2), .val (.int p3), .val (.int p4), .val (.int p5), .val (.int (p5 &&& (3 : Int32))), .val (.long kk106), .second, .val (.long kk65), .second, .val (.long (kk65 + kk75)), .second, .val (.long kk92), .second, .val (.long ((kk65 + kk75) - kk65)), .second, .unset, .unset, .unset, .unset, .unset, .unset, .unset, .unset, .unset, .unset, .unset] [])) _
    refine XS.lload X0.here hx rfl (hb hby at_153) rfl ?_
    show Steps p.tables e below (s₁.setTop (mkF m 155 #[.val (.int p1), .val (.int p2), .val (.int p3), .val (.int p4), .val (.int p5), .val (.int (p5 &&& (3 : Int32))), .val (.long kk106), .second, .val (.long kk65), .second, .val (.long (kk65 + kk75)), .second, .val (.long kk92), .second, .val (.long ((kk65 + kk75) - kk65)), .second, .unset, .unset, .unset, .unset, .unset, .unset, .unset, .unset, .unset, .unset, .unset] [(.long kk106)])) _
    refine XS.l2dS X0.here hx rfl (hb hby at_155) rfl rfl ?_
    show Steps p.tables e below (s₁.setTop (mkF m 156 #[.val (.int p1), .val (.int p2), .val (.int p3), .val (.int p4), .val (.int p5), .val (.int (p5 &&& (3 : Int32))), .val (.long kk106), .second, .val (.long kk65), .second, .val (.long (kk65 + kk75)), .second, .val (.long kk92), .second, .val (.long ((kk65 + kk75) - kk65)), .second, .unset, .unset, .unset, .unset, .unset, .unset, .unset, .unset, .unset, .unset, .unset] [(.double (FP.l2d kk106))])) _
    refine XS.lload X0.here hx rfl (hb hby at_156) rfl ?_
    show Steps p.tables e below (s₁.setTop (mkF m 158 #[.val (.int p1), .val (.int p2), .val (.int p3), .val (.int p4), .val (.int p5), .val (.int (p5 &&& (3 : Int32))), .val (.long kk106), .second, .val (.long kk65), .second, .val (.long (kk65 + kk75)), .second, .val (.long kk92), .second, .val (.long ((kk65 + kk75) - kk65)), .second, .unset, .unset, .unset, .unset, .unset, .unset, .unset, .unset, .unset, .unset, .unset] [(.long kk65), (.double (FP.l2d kk106))])) _
    refine XS.l2dS X0.here hx rfl (hb hby at_158) rfl rfl ?_
    show Steps p.tables e below (s₁.setTop (mkF m 159 #[.val (.int p1), .val (.int p2), .val (.int p3), .val (.int p4), .val (.int p5), .val (.int (p5 &&& (3 : Int32))), .val (.long kk106), .second, .val (.long kk65), .second, .val (.long (kk65 + kk75)), .second, .val (.long kk92), .second, .val (.long ((kk65 + kk75) - kk65)), .second, .unset, .unset, .unset, .unset, .unset, .unset, .unset, .unset, .unset, .unset, .unset] [(.double (FP.l2d kk65)), (.double (FP.l2d kk106))])) _
    refine XS.lload X0.here hx rfl (hb hby at_159) rfl ?_
    show Steps p.tables e below (s₁.setTop (mkF m 161 #[.val (.int p1), .val (.int p2), .val (.int p3), .val (.int p4), .val (.int p5), .val (.int (p5 &&& (3 : Int32))), .val (.long kk106), .second, .val (.long kk65), .second, .val (.long (kk65 + kk75)), .second, .val (.long kk92), .second, .val (.long ((kk65 + kk75) - kk65)), .second, .unset, .unset, .unset, .unset, .unset, .unset, .unset, .unset, .unset, .unset, .unset] [(.long (kk65 + kk75)), (.double (FP.l2d kk65)), (.double (FP.l2d kk106))])) _
    refine XS.l2dS X0.here hx rfl (hb hby at_161) rfl rfl ?_
    show Steps p.tables e below (s₁.setTop (mkF m 162 #[.val (.int p1), .val (.int p2), .val (.int p3), .val (.int p4), .val (.int p5), .val (.int (p5 &&& (3 : Int32))), .val (.long kk106), .second, .val (.long kk65), .second, .val (.long (kk65 + kk75)), .second, .val (.long kk92), .second, .val (.long ((kk65 + kk75) - kk65)), .second, .unset, .unset, .unset, .unset, .unset, .unset, .unset, .unset, .unset, .unset, .unset] [(.double (FP.l2d (kk65 + kk75))), (.double (FP.l2d kk65)), (.double (FP.l2d kk106))])) _
    refine XS.lload X0.here hx rfl (hb hby at_162) rfl ?_
    show Steps p.tables e below (s₁.setTop (mkF m 164 #[.val (.int p1), .val (.int p2), .val (.int p3), .val (.int p4), .val (.int p5), .val (.int (p5 &&& (3 : Int32))), .val (.long kk106), .second, .val (.long kk65), .second, .val (.long (kk65 + kk75)), .second, .val (.long kk92), .second, .val (.long ((kk65 + kk75) - kk65)), .second, .unset, .unset, .unset, .unset, .unset, .unset, .unset, .unset, .unset, .unset, .unset] [(.long kk92), (.double (FP.l2d (kk65 + kk75))), (.double (FP.l2d kk65)), (.double (FP.l2d kk106))])) _
    refine XS.l2dS X0.here hx rfl (hb hby at_164) rfl rfl ?_
    show Steps p.tables e below (s₁.setTop (mkF m 165 #[.val (.int p1), .val (.int p2), .val (.int p3), .val (.int p4), .val (.int p5), .val (.int (p5 &&& (3 : Int32))), .val (.long kk106), .second, .val (.long kk65), .second, .val (.long (kk65 + kk75)), .second, .val (.long kk92), .second, .val (.long ((kk65 + kk75) - kk65)), .second, .unset, .unset, .unset, .unset, .unset, .unset, .unset, .unset, .unset, .unset, .unset] [(.double (FP.l2d kk92)), (.double (FP.l2d (kk65 + kk75))), (.double (FP.l2d kk65)), (.double (FP.l2d kk106))])) _
    refine st6 _ ?_
    show Steps p.tables e below (T6.setTop (mkF m 168 #[.val (.int p1), .val (.int p2), .val (.int p3), .val (.int p4), .val (.int p5), .val (.int (p5 &&& (3 : Int32))), .val (.long kk106), .second, .val (.long kk65), .second, .val (.long (kk65 + kk75)), .second, .val (.long kk92), .second, .val (.long ((kk65 + kk75) - kk65)), .second, .unset, .unset, .unset, .unset, .unset, .unset, .unset, .unset, .unset, .unset, .unset] [(.ref bR)])) _
    refine XS.astore X6.here hx rfl (hb hby at_168) rfl rfl (l' := #[.val (.int p1), .val (.int p2), .val (.int p3), .val (.int p4), .val (.int p5), .val (.int (p5 &&& (3 : Int32))), .val (.long kk106), .second, .val (.long kk65), .second, .val (.long (kk65 + kk75)), .second, .val (.long kk92), .second, .val (.long ((kk65 + kk75) - kk65)), .second, .val (.ref bR), .unset, .unset, .unset, .unset, .unset, .unset, .unset, .unset, .unset, .unset]) rfl ?_
    show Steps p.tables e below (T6.setTop (mkF m 170 #[.val (.int p1), .val (.int p2), .val (.int p3), .val (.int p4), .val (.int p5), .val (.int (p5 &&& (3 : Int32))), .val (.long kk106), .second, .val (.long kk65), .second, .val (.long (kk65 + kk75)), .second, .val (.long kk92), .second, .val (.long ((kk65 + kk75) - kk65)), .second, .val (.ref bR), .unset, .unset, .unset, .unset, .unset, .unset, .unset, .unset, .unset, .unset] [])) _
    refine XS.lload X6.here hx rfl (hb hby at_170) rfl ?_
    show Steps p.tables e below (T6.setTop (mkF m 172 #[.val (.int p1), .val (.int p2), .val (.int p3), .val (.int p4), .val (.int p5), .val (.int (p5 &&& (3 : Int32))), .val (.long kk106), .second, .val (.long kk65), .second, .val (.long (kk65 + kk75)), .second, .val (.long kk92), .second, .val (.long ((kk65 + kk75) - kk65)), .second, .val (.ref bR), .unset, .unset, .unset, .unset, .unset, .unset, .unset, .unset, .unset, .unset] [(.long ((kk65 + kk75) - kk65))])) _
    refine XS.lconst X6.here hx rfl (hb hby at_172) ?_
    show Steps p.tables e below (T6.setTop (mkF m 173 #[.val (.int p1), .val (.int p2), .val (.int p3), .val (.int p4), .val (.int p5), .val (.int (p5 &&& (3 : Int32))), .val (.long kk106), .second, .val (.long kk65), .second, .val (.long (kk65 + kk75)), .second, .val (.long kk92), .second, .val (.long ((kk65 + kk75) - kk65)), .second, .val (.ref bR), .unset, .unset, .unset, .unset, .unset, .unset, .unset, .unset, .unset, .unset] [(.long (0 : Int64)), (.long ((kk65 + kk75) - kk65))])) _
    refine XS.lcmp X6.here hx rfl (hb hby at_173) rfl ?_
    show Steps p.tables e below (T6.setTop (mkF m 174 #[.val (.int p1), .val (.int p2), .val (.int p3), .val (.int p4), .val (.int p5), .val (.int (p5 &&& (3 : Int32))), .val (.long kk106), .second, .val (.long kk65), .second, .val (.long (kk65 + kk75)), .second, .val (.long kk92), .second, .val (.long ((kk65 + kk75) - kk65)), .second, .val (.ref bR), .unset, .unset, .unset, .unset, .unset, .unset, .unset, .unset, .unset, .unset] [(.int (lcmpW ((kk65 + kk75) - kk65) (0 : Int64)))])) _
    refine XS.ifNo X6.here hx rfl (hb hby at_174) rfl ((if0 _ _).trans (tlt hc174).2.2.2) ?_
    show Steps p.tables e below (T6.setTop (mkF m 177 #[.val (.int p1), .val (.int p2), .val (.int p3), .val (.int p4), .val (.int p5), .val (.int (p5 &&& (3 : Int32))), .val (.long kk106), .second, .val (.long kk65), .second, .val (.long (kk65 + kk75)), .second, .val (.long kk92), .second, .val (.long ((kk65 + kk75) - kk65)), .second, .val (.ref bR), .unset, .unset, .unset, .unset, .unset, .unset, .unset, .unset, .unset, .unset] [])) _
    refine XS.lload X6.here hx rfl (hb hby at_177) rfl ?_
    show Steps p.tables e below (T6.setTop (mkF m 179 #[.val (.int p1), .val (.int p2), .val (.int p3), .val (.int p4), .val (.int p5), .val (.int (p5 &&& (3 : Int32))), .val (.long kk106), .second, .val (.long kk65), .second, .val (.long (kk65 + kk75)), .second, .val (.long kk92), .second, .val (.long ((kk65 + kk75) - kk65)), .second, .val (.ref bR), .unset, .unset, .unset, .unset, .unset, .unset, .unset, .unset, .unset, .unset] [(.long kk106)])) _
    refine XS.lload X6.here hx rfl (hb hby at_179) rfl ?_
    show Steps p.tables e below (T6.setTop (mkF m 181 #[.val (.int p1), .val (.int p2), .val (.int p3), .val (.int p4), .val (.int p5), .val (.int (p5 &&& (3 : Int32))), .val (.long kk106), .second, .val (.long kk65), .second, .val (.long (kk65 + kk75)), .second, .val (.long kk92), .second, .val (.long ((kk65 + kk75) - kk65)), .second, .val (.ref bR), .unset, .unset, .unset, .unset, .unset, .unset, .unset, .unset, .unset, .unset] [(.long kk92), (.long kk106)])) _
    refine XS.lload X6.here hx rfl (hb hby at_181) rfl ?_
    show Steps p.tables e below (T6.setTop (mkF m 183 #[.val (.int p1), .val (.int p2), .val (.int p3), .val (.int p4), .val (.int p5), .val (.int (p5 &&& (3 : Int32))), .val (.long kk106), .second, .val (.long kk65), .second, .val (.long (kk65 + kk75)), .second, .val (.long kk92), .second, .val (.long ((kk65 + kk75) - kk65)), .second, .val (.ref bR), .unset, .unset, .unset, .unset, .unset, .unset, .unset, .unset, .unset, .unset] [(.long ((kk65 + kk75) - kk65)), (.long kk92), (.long kk106)])) _
    refine XS.lmul X6.here hx rfl (hb hby at_183) rfl ?_
    show Steps p.tables e below (T6.setTop (mkF m 184 #[.val (.int p1), .val (.int p2), .val (.int p3), .val (.int p4), .val (.int p5), .val (.int (p5 &&& (3 : Int32))), .val (.long kk106), .second, .val (.long kk65), .second, .val (.long (kk65 + kk75)), .second, .val (.long kk92), .second, .val (.long ((kk65 + kk75) - kk65)), .second, .val (.ref bR), .unset, .unset, .unset, .unset, .unset, .unset, .unset, .unset, .unset, .unset] [(.long (kk92 * ((kk65 + kk75) - kk65))), (.long kk106)])) _
    refine XS.lcmp X6.here hx rfl (hb hby at_184) rfl ?_
    show Steps p.tables e below (T6.setTop (mkF m 185 #[.val (.int p1), .val (.int p2), .val (.int p3), .val (.int p4), .val (.int p5), .val (.int (p5 &&& (3 : Int32))), .val (.long kk106), .second, .val (.long kk65), .second, .val (.long (kk65 + kk75)), .second, .val (.long kk92), .second, .val (.long ((kk65 + kk75) - kk65)), .second, .val (.ref bR), .unset, .unset, .unset, .unset, .unset, .unset, .unset, .unset, .unset, .unset] [(.int (lcmpW kk106 (kk92 * ((kk65 + kk75) - kk65))))])) _
    refine XS.ifYes X6.here hx rfl (pc0 := 185) (pc' := 245) rfl (hb hby at_185) rfl ((if0 _ _).trans (flt hc185).2.1) (by decide) (by decide) ?_
    show Steps p.tables e below (T6.setTop (mkF m 245 #[.val (.int p1), .val (.int p2), .val (.int p3), .val (.int p4), .val (.int p5), .val (.int (p5 &&& (3 : Int32))), .val (.long kk106), .second, .val (.long kk65), .second, .val (.long (kk65 + kk75)), .second, .val (.long kk92), .second, .val (.long ((kk65 + kk75) - kk65)), .second, .val (.ref bR), .unset, .unset, .unset, .unset, .unset, .unset, .unset, .unset, .unset, .unset] [])) _
    refine X6.ldc2Long hx hown (mvT hZ (hw _ (List.mem_of_getElem? (i := 23) rfl))) (g := (mkF m 245 #[.val (.int p1), .val (.int p2), .val (.int p3), .val (.int p4), .val (.int p5), .val (.int (p5 &&& (3 : Int32))), .val (.long kk106), .second, .val (.long kk65), .second, .val (.long (kk65 + kk75)), .second, .val (.long kk92), .second, .val (.long ((kk65 + kk75) - kk65)), .second, .val (.ref bR), .unset, .unset, .unset, .unset, .unset, .unset, .unset, .unset, .unset, .unset] [])) rfl (hb hby at_245) _ ?_
    show Steps p.tables e below (T6.setTop (mkF m 248 #[.val (.int p1), .val (.int p2), .val (.int p3), .val (.int p4), .val (.int p5), .val (.int (p5 &&& (3 : Int32))), .val (.long kk106), .second, .val (.long kk65), .second, .val (.long (kk65 + kk75)), .second, .val (.long kk92), .second, .val (.long ((kk65 + kk75) - kk65)), .second, .val (.ref bR), .unset, .unset, .unset, .unset, .unset, .unset, .unset, .unset, .unset, .unset] [(.long (2 : Int64))])) _
    refine XS.lload X6.here hx rfl (hb hby at_248) rfl ?_
    show Steps p.tables e below (T6.setTop (mkF m 250 #[.val (.int p1), .val (.int p2), .val (.int p3), .val (.int p4), .val (.int p5), .val (.int (p5 &&& (3 : Int32))), .val (.long kk106), .second, .val (.long kk65), .second, .val (.long (kk65 + kk75)), .second, .val (.long kk92), .second, .val (.long ((kk65 + kk75) - kk65)), .second, .val (.ref bR), .unset, .unset, .unset, .unset, .unset, .unset, .unset, .unset, .unset, .unset] [(.long kk106), (.long (2 : Int64))])) _
    refine XS.lmul X6.here hx rfl (hb hby at_250) rfl ?_
    show Steps p.tables e below (T6.setTop (mkF m 251 #[.val (.int p1), .val (.int p2), .val (.int p3), .val (.int p4), .val (.int p5), .val (.int (p5 &&& (3 : Int32))), .val (.long kk106), .second, .val (.long kk65), .second, .val (.long (kk65 + kk75)), .second, .val (.long kk92), .second, .val (.long ((kk65 + kk75) - kk65)), .second, .val (.ref bR), .unset, .unset, .unset, .unset, .unset, .unset, .unset, .unset, .unset, .unset] [(.long ((2 : Int64) * kk106))])) _
    refine XS.lload X6.here hx rfl (hb hby at_251) rfl ?_
    show Steps p.tables e below (T6.setTop (mkF m 253 #[.val (.int p1), .val (.int p2), .val (.int p3), .val (.int p4), .val (.int p5), .val (.int (p5 &&& (3 : Int32))), .val (.long kk106), .second, .val (.long kk65), .second, .val (.long (kk65 + kk75)), .second, .val (.long kk92), .second, .val (.long ((kk65 + kk75) - kk65)), .second, .val (.ref bR), .unset, .unset, .unset, .unset, .unset, .unset, .unset, .unset, .unset, .unset] [(.long ((kk65 + kk75) - kk65)), (.long ((2 : Int64) * kk106))])) _
    refine XS.lload X6.here hx rfl (hb hby at_253) rfl ?_
    show Steps p.tables e below (T6.setTop (mkF m 255 #[.val (.int p1), .val (.int p2), .val (.int p3), .val (.int p4), .val (.int p5), .val (.int (p5 &&& (3 : Int32))), .val (.long kk106), .second, .val (.long kk65), .second, .val (.long (kk65 + kk75)), .second, .val (.long kk92), .second, .val (.long ((kk65 + kk75) - kk65)), .second, .val (.ref bR), .unset, .unset, .unset, .unset, .unset, .unset, .unset, .unset, .unset, .unset] [(.long kk92), (.long ((kk65 + kk75) - kk65)), (.long ((2 : Int64) * kk106))])) _
    refine XS.lmul X6.here hx rfl (hb hby at_255) rfl ?_
    show Steps p.tables e below (T6.setTop (mkF m 256 #[.val (.int p1), .val (.int p2), .val (.int p3), .val (.int p4), .val (.int p5), .val (.int (p5 &&& (3 : Int32))), .val (.long kk106), .second, .val (.long kk65), .second, .val (.long (kk65 + kk75)), .second, .val (.long kk92), .second, .val (.long ((kk65 + kk75) - kk65)), .second, .val (.ref bR), .unset, .unset, .unset, .unset, .unset, .unset, .unset, .unset, .unset, .unset] [(.long (((kk65 + kk75) - kk65) * kk92)), (.long ((2 : Int64) * kk106))])) _
    refine XS.lsub X6.here hx rfl (hb hby at_256) rfl ?_
    show Steps p.tables e below (T6.setTop (mkF m 257 #[.val (.int p1), .val (.int p2), .val (.int p3), .val (.int p4), .val (.int p5), .val (.int (p5 &&& (3 : Int32))), .val (.long kk106), .second, .val (.long kk65), .second, .val (.long (kk65 + kk75)), .second, .val (.long kk92), .second, .val (.long ((kk65 + kk75) - kk65)), .second, .val (.ref bR), .unset, .unset, .unset, .unset, .unset, .unset, .unset, .unset, .unset, .unset] [(.long (((2 : Int64) * kk106) - (((kk65 + kk75) - kk65) * kk92)))])) _
    refine X6.ldc2Long hx hown (mvT hZ (hw _ (List.mem_of_getElem? (i := 23) rfl))) (g := (mkF m 257 #[.val (.int p1), .val (.int p2), .val (.int p3), .val (.int p4), .val (.int p5), .val (.int (p5 &&& (3 : Int32))), .val (.long kk106), .second, .val (.long kk65), .second, .val (.long (kk65 + kk75)), .second, .val (.long kk92), .second, .val (.long ((kk65 + kk75) - kk65)), .second, .val (.ref bR), .unset, .unset, .unset, .unset, .unset, .unset, .unset, .unset, .unset, .unset] [(.long (((2 : Int64) * kk106) - (((kk65 + kk75) - kk65) * kk92)))])) rfl (hb hby at_257) _ ?_
    show Steps p.tables e below (T6.setTop (mkF m 260 #[.val (.int p1), .val (.int p2), .val (.int p3), .val (.int p4), .val (.int p5), .val (.int (p5 &&& (3 : Int32))), .val (.long kk106), .second, .val (.long kk65), .second, .val (.long (kk65 + kk75)), .second, .val (.long kk92), .second, .val (.long ((kk65 + kk75) - kk65)), .second, .val (.ref bR), .unset, .unset, .unset, .unset, .unset, .unset, .unset, .unset, .unset, .unset] [(.long (2 : Int64)), (.long (((2 : Int64) * kk106) - (((kk65 + kk75) - kk65) * kk92)))])) _
    refine XS.ladd X6.here hx rfl (hb hby at_260) rfl ?_
    show Steps p.tables e below (T6.setTop (mkF m 261 #[.val (.int p1), .val (.int p2), .val (.int p3), .val (.int p4), .val (.int p5), .val (.int (p5 &&& (3 : Int32))), .val (.long kk106), .second, .val (.long kk65), .second, .val (.long (kk65 + kk75)), .second, .val (.long kk92), .second, .val (.long ((kk65 + kk75) - kk65)), .second, .val (.ref bR), .unset, .unset, .unset, .unset, .unset, .unset, .unset, .unset, .unset, .unset] [(.long ((((2 : Int64) * kk106) - (((kk65 + kk75) - kk65) * kk92)) + (2 : Int64)))])) _
    refine XS.lstore X6.here hx rfl (hb hby at_261) rfl (l' := #[.val (.int p1), .val (.int p2), .val (.int p3), .val (.int p4), .val (.int p5), .val (.int (p5 &&& (3 : Int32))), .val (.long kk106), .second, .val (.long kk65), .second, .val (.long (kk65 + kk75)), .second, .val (.long kk92), .second, .val (.long ((kk65 + kk75) - kk65)), .second, .val (.ref bR), .val (.long ((((2 : Int64) * kk106) - (((kk65 + kk75) - kk65) * kk92)) + (2 : Int64))), .second, .unset, .unset, .unset, .unset, .unset, .unset, .unset, .unset]) rfl ?_
    show Steps p.tables e below (T6.setTop (mkF m 263 #[.val (.int p1), .val (.int p2), .val (.int p3), .val (.int p4), .val (.int p5), .val (.int (p5 &&& (3 : Int32))), .val (.long kk106), .second, .val (.long kk65), .second, .val (.long (kk65 + kk75)), .second, .val (.long kk92), .second, .val (.long ((kk65 + kk75) - kk65)), .second, .val (.ref bR), .val (.long ((((2 : Int64) * kk106) - (((kk65 + kk75) - kk65) * kk92)) + (2 : Int64))), .second, .unset, .unset, .unset, .unset, .unset, .unset, .unset, .unset] [])) _
    rw [hk261]
    show Steps p.tables e below (T6.setTop (mkF m 263 #[.val (.int p1), .val (.int p2), .val (.int p3), .val (.int p4), .val (.int p5), .val (.int (p5 &&& (3 : Int32))), .val (.long kk106), .second, .val (.long kk65), .second, .val (.long (kk65 + kk75)), .second, .val (.long kk92), .second, .val (.long ((kk65 + kk75) - kk65)), .second, .val (.ref bR), .val (.long kk261), .second, .unset, .unset, .unset, .unset, .unset, .unset, .unset, .unset] [])) _
    refine X6.ldc2Long hx hown (mvT hZ (hw _ (List.mem_of_getElem? (i := 23) rfl))) (g := (mkF m 263 #[.val (.int p1), .val (.int p2), .val (.int p3), .val (.int p4), .val (.int p5), .val (.int (p5 &&& (3 : Int32))), .val (.long kk106), .second, .val (.long kk65), .second, .val (.long (kk65 + kk75)), .second, .val (.long kk92), .second, .val (.long ((kk65 + kk75) - kk65)), .second, .val (.ref bR), .val (.long kk261), .second, .unset, .unset, .unset, .unset, .unset, .unset, .unset, .unset] [])) rfl (hb hby at_263) _ ?_
    show Steps p.tables e below (T6.setTop (mkF m 266 #[.val (.int p1), .val (.int p2), .val (.int p3), .val (.int p4), .val (.int p5), .val (.int (p5 &&& (3 : Int32))), .val (.long kk106), .second, .val (.long kk65), .second, .val (.long (kk65 + kk75)), .second, .val (.long kk92), .second, .val (.long ((kk65 + kk75) - kk65)), .second, .val (.ref bR), .val (.long kk261), .second, .unset, .unset, .unset, .unset, .unset, .unset, .unset, .unset] [(.long (2 : Int64))])) _
    refine XS.lload X6.here hx rfl (hb hby at_266) rfl ?_
    show Steps p.tables e below (T6.setTop (mkF m 268 #[.val (.int p1), .val (.int p2), .val (.int p3), .val (.int p4), .val (.int p5), .val (.int (p5 &&& (3 : Int32))), .val (.long kk106), .second, .val (.long kk65), .second, .val (.long (kk65 + kk75)), .second, .val (.long kk92), .second, .val (.long ((kk65 + kk75) - kk65)), .second, .val (.ref bR), .val (.long kk261), .second, .unset, .unset, .unset, .unset, .unset, .unset, .unset, .unset] [(.long (kk65 + kk75)), (.long (2 : Int64))])) _
    refine XS.lmul X6.here hx rfl (hb hby at_268) rfl ?_
    show Steps p.tables e below (T6.setTop (mkF m 269 #[.val (.int p1), .val (.int p2), .val (.int p3), .val (.int p4), .val (.int p5), .val (.int (p5 &&& (3 : Int32))), .val (.long kk106), .second, .val (.long kk65), .second, .val (.long (kk65 + kk75)), .second, .val (.long kk92), .second, .val (.long ((kk65 + kk75) - kk65)), .second, .val (.ref bR), .val (.long kk261), .second, .unset, .unset, .unset, .unset, .unset, .unset, .unset, .unset] [(.long ((2 : Int64) * (kk65 + kk75)))])) _
    refine XS.lstore X6.here hx rfl (hb hby at_269) rfl (l' := #[.val (.int p1), .val (.int p2), .val (.int p3), .val (.int p4), .val (.int p5), .val (.int (p5 &&& (3 : Int32))), .val (.long kk106), .second, .val (.long kk65), .second, .val (.long (kk65 + kk75)), .second, .val (.long kk92), .second, .val (.long ((kk65 + kk75) - kk65)), .second, .val (.ref bR), .val (.long kk261), .second, .val (.long ((2 : Int64) * (kk65 + kk75))), .second, .unset, .unset, .unset, .unset, .unset, .unset]) rfl ?_
    show Steps p.tables e below (T6.setTop (mkF m 271 #[.val (.int p1), .val (.int p2), .val (.int p3), .val (.int p4), .val (.int p5), .val (.int (p5 &&& (3 : Int32))), .val (.long kk106), .second, .val (.long kk65), .second, .val (.long (kk65 + kk75)), .second, .val (.long kk92), .second, .val (.long ((kk65 + kk75) - kk65)), .second, .val (.ref bR), .val (.long kk261), .second, .val (.long ((2 : Int64) * (kk65 + kk75))), .second, .unset, .unset, .unset, .unset, .unset, .unset] [])) _
    refine XS.lload X6.here hx rfl (hb hby at_271) rfl ?_
    show Steps p.tables e below (T6.setTop (mkF m 273 #[.val (.int p1), .val (.int p2), .val (.int p3), .val (.int p4), .val (.int p5), .val (.int (p5 &&& (3 : Int32))), .val (.long kk106), .second, .val (.long kk65), .second, .val (.long (kk65 + kk75)), .second, .val (.long kk92), .second, .val (.long ((kk65 + kk75) - kk65)), .second, .val (.ref bR), .val (.long kk261), .second, .val (.long ((2 : Int64) * (kk65 + kk75))), .second, .unset, .unset, .unset, .unset, .unset, .unset] [(.long kk92)])) _
    refine XS.lneg X6.here hx rfl (hb hby at_273) rfl ?_
    show Steps p.tables e below (T6.setTop (mkF m 274 #[.val (.int p1), .val (.int p2), .val (.int p3), .val (.int p4), .val (.int p5), .val (.int (p5 &&& (3 : Int32))), .val (.long kk106), .second, .val (.long kk65), .second, .val (.long (kk65 + kk75)), .second, .val (.long kk92), .second, .val (.long ((kk65 + kk75) - kk65)), .second, .val (.ref bR), .val (.long kk261), .second, .val (.long ((2 : Int64) * (kk65 + kk75))), .second, .unset, .unset, .unset, .unset, .unset, .unset] [(.long (-kk92))])) _
    refine XS.l2dS X6.here hx rfl (hb hby at_274) rfl rfl ?_
    show Steps p.tables e below (T6.setTop (mkF m 275 #[.val (.int p1), .val (.int p2), .val (.int p3), .val (.int p4), .val (.int p5), .val (.int (p5 &&& (3 : Int32))), .val (.long kk106), .second, .val (.long kk65), .second, .val (.long (kk65 + kk75)), .second, .val (.long kk92), .second, .val (.long ((kk65 + kk75) - kk65)), .second, .val (.ref bR), .val (.long kk261), .second, .val (.long ((2 : Int64) * (kk65 + kk75))), .second, .unset, .unset, .unset, .unset, .unset, .unset] [(.double (FP.l2d (-kk92)))])) _
    refine X6.ldc2DoubleC hx hown (mvT hZ (hw _ (List.mem_of_getElem? (i := 24) rfl))) (g := (mkF m 275 #[.val (.int p1), .val (.int p2), .val (.int p3), .val (.int p4), .val (.int p5), .val (.int (p5 &&& (3 : Int32))), .val (.long kk106), .second, .val (.long kk65), .second, .val (.long (kk65 + kk75)), .second, .val (.long kk92), .second, .val (.long ((kk65 + kk75) - kk65)), .second, .val (.ref bR), .val (.long kk261), .second, .val (.long ((2 : Int64) * (kk65 + kk75))), .second, .unset, .unset, .unset, .unset, .unset, .unset] [(.double (FP.l2d (-kk92)))])) rfl (hb hby at_275) _ ?_
    show Steps p.tables e below (T6.setTop (mkF m 278 #[.val (.int p1), .val (.int p2), .val (.int p3), .val (.int p4), .val (.int p5), .val (.int (p5 &&& (3 : Int32))), .val (.long kk106), .second, .val (.long kk65), .second, .val (.long (kk65 + kk75)), .second, .val (.long kk92), .second, .val (.long ((kk65 + kk75) - kk65)), .second, .val (.ref bR), .val (.long kk261), .second, .val (.long ((2 : Int64) * (kk65 + kk75))), .second, .unset, .unset, .unset, .unset, .unset, .unset] [(.double (4611686018427387904 : UInt64)), (.double (FP.l2d (-kk92)))])) _
    refine XS.ddivS X6.here hx rfl (hb hby at_278) rfl hn278 hv278 ?_
    show Steps p.tables e below (T6.setTop (mkF m 279 #[.val (.int p1), .val (.int p2), .val (.int p3), .val (.int p4), .val (.int p5), .val (.int (p5 &&& (3 : Int32))), .val (.long kk106), .second, .val (.long kk65), .second, .val (.long (kk65 + kk75)), .second, .val (.long kk92), .second, .val (.long ((kk65 + kk75) - kk65)), .second, .val (.ref bR), .val (.long kk261), .second, .val (.long ((2 : Int64) * (kk65 + kk75))), .second, .unset, .unset, .unset, .unset, .unset, .unset] [(.double r278)])) _
    refine XS.dstore X6.here hx rfl (hb hby at_279) rfl (l' := #[.val (.int p1), .val (.int p2), .val (.int p3), .val (.int p4), .val (.int p5), .val (.int (p5 &&& (3 : Int32))), .val (.long kk106), .second, .val (.long kk65), .second, .val (.long (kk65 + kk75)), .second, .val (.long kk92), .second, .val (.long ((kk65 + kk75) - kk65)), .second, .val (.ref bR), .val (.long kk261), .second, .val (.long ((2 : Int64) * (kk65 + kk75))), .second, .val (.double r278), .second, .unset, .unset, .unset, .unset]) rfl ?_
    show Steps p.tables e below (T6.setTop (mkF m 281 #[.val (.int p1), .val (.int p2), .val (.int p3), .val (.int p4), .val (.int p5), .val (.int (p5 &&& (3 : Int32))), .val (.long kk106), .second, .val (.long kk65), .second, .val (.long (kk65 + kk75)), .second, .val (.long kk92), .second, .val (.long ((kk65 + kk75) - kk65)), .second, .val (.ref bR), .val (.long kk261), .second, .val (.long ((2 : Int64) * (kk65 + kk75))), .second, .val (.double r278), .second, .unset, .unset, .unset, .unset] [])) _
    refine XS.lload X6.here hx rfl (hb hby at_281) rfl ?_
    show Steps p.tables e below (T6.setTop (mkF m 283 #[.val (.int p1), .val (.int p2), .val (.int p3), .val (.int p4), .val (.int p5), .val (.int (p5 &&& (3 : Int32))), .val (.long kk106), .second, .val (.long kk65), .second, .val (.long (kk65 + kk75)), .second, .val (.long kk92), .second, .val (.long ((kk65 + kk75) - kk65)), .second, .val (.ref bR), .val (.long kk261), .second, .val (.long ((2 : Int64) * (kk65 + kk75))), .second, .val (.double r278), .second, .unset, .unset, .unset, .unset] [(.long kk261)])) _
    refine XS.l2dS X6.here hx rfl (hb hby at_283) rfl rfl ?_
    show Steps p.tables e below (T6.setTop (mkF m 284 #[.val (.int p1), .val (.int p2), .val (.int p3), .val (.int p4), .val (.int p5), .val (.int (p5 &&& (3 : Int32))), .val (.long kk106), .second, .val (.long kk65), .second, .val (.long (kk65 + kk75)), .second, .val (.long kk92), .second, .val (.long ((kk65 + kk75) - kk65)), .second, .val (.ref bR), .val (.long kk261), .second, .val (.long ((2 : Int64) * (kk65 + kk75))), .second, .val (.double r278), .second, .unset, .unset, .unset, .unset] [(.double (FP.l2d kk261))])) _
    refine XS.lload X6.here hx rfl (hb hby at_284) rfl ?_
    show Steps p.tables e below (T6.setTop (mkF m 286 #[.val (.int p1), .val (.int p2), .val (.int p3), .val (.int p4), .val (.int p5), .val (.int (p5 &&& (3 : Int32))), .val (.long kk106), .second, .val (.long kk65), .second, .val (.long (kk65 + kk75)), .second, .val (.long kk92), .second, .val (.long ((kk65 + kk75) - kk65)), .second, .val (.ref bR), .val (.long kk261), .second, .val (.long ((2 : Int64) * (kk65 + kk75))), .second, .val (.double r278), .second, .unset, .unset, .unset, .unset] [(.long ((2 : Int64) * (kk65 + kk75))), (.double (FP.l2d kk261))])) _
    refine XS.l2dS X6.here hx rfl (hb hby at_286) rfl rfl ?_
    show Steps p.tables e below (T6.setTop (mkF m 287 #[.val (.int p1), .val (.int p2), .val (.int p3), .val (.int p4), .val (.int p5), .val (.int (p5 &&& (3 : Int32))), .val (.long kk106), .second, .val (.long kk65), .second, .val (.long (kk65 + kk75)), .second, .val (.long kk92), .second, .val (.long ((kk65 + kk75) - kk65)), .second, .val (.ref bR), .val (.long kk261), .second, .val (.long ((2 : Int64) * (kk65 + kk75))), .second, .val (.double r278), .second, .unset, .unset, .unset, .unset] [(.double (FP.l2d ((2 : Int64) * (kk65 + kk75)))), (.double (FP.l2d kk261))])) _
    refine XS.ddivS X6.here hx rfl (hb hby at_287) rfl hn287 hv287 ?_
    show Steps p.tables e below (T6.setTop (mkF m 288 #[.val (.int p1), .val (.int p2), .val (.int p3), .val (.int p4), .val (.int p5), .val (.int (p5 &&& (3 : Int32))), .val (.long kk106), .second, .val (.long kk65), .second, .val (.long (kk65 + kk75)), .second, .val (.long kk92), .second, .val (.long ((kk65 + kk75) - kk65)), .second, .val (.ref bR), .val (.long kk261), .second, .val (.long ((2 : Int64) * (kk65 + kk75))), .second, .val (.double r278), .second, .unset, .unset, .unset, .unset] [(.double r287)])) _
    refine XS.dstore X6.here hx rfl (hb hby at_288) rfl (l' := #[.val (.int p1), .val (.int p2), .val (.int p3), .val (.int p4), .val (.int p5), .val (.int (p5 &&& (3 : Int32))), .val (.long kk106), .second, .val (.long kk65), .second, .val (.long (kk65 + kk75)), .second, .val (.long kk92), .second, .val (.long ((kk65 + kk75) - kk65)), .second, .val (.ref bR), .val (.long kk261), .second, .val (.long ((2 : Int64) * (kk65 + kk75))), .second, .val (.double r278), .second, .val (.double r287), .second, .unset, .unset]) rfl ?_
    show Steps p.tables e below (T6.setTop (mkF m 290 #[.val (.int p1), .val (.int p2), .val (.int p3), .val (.int p4), .val (.int p5), .val (.int (p5 &&& (3 : Int32))), .val (.long kk106), .second, .val (.long kk65), .second, .val (.long (kk65 + kk75)), .second, .val (.long kk92), .second, .val (.long ((kk65 + kk75) - kk65)), .second, .val (.ref bR), .val (.long kk261), .second, .val (.long ((2 : Int64) * (kk65 + kk75))), .second, .val (.double r278), .second, .val (.double r287), .second, .unset, .unset] [])) _
    refine XS.dload X6.here hx rfl (hb hby at_290) rfl ?_
    show Steps p.tables e below (T6.setTop (mkF m 292 #[.val (.int p1), .val (.int p2), .val (.int p3), .val (.int p4), .val (.int p5), .val (.int (p5 &&& (3 : Int32))), .val (.long kk106), .second, .val (.long kk65), .second, .val (.long (kk65 + kk75)), .second, .val (.long kk92), .second, .val (.long ((kk65 + kk75) - kk65)), .second, .val (.ref bR), .val (.long kk261), .second, .val (.long ((2 : Int64) * (kk65 + kk75))), .second, .val (.double r278), .second, .val (.double r287), .second, .unset, .unset] [(.double r278)])) _
    refine XS.dload X6.here hx rfl (hb hby at_292) rfl ?_
    show Steps p.tables e below (T6.setTop (mkF m 294 #[.val (.int p1), .val (.int p2), .val (.int p3), .val (.int p4), .val (.int p5), .val (.int (p5 &&& (3 : Int32))), .val (.long kk106), .second, .val (.long kk65), .second, .val (.long (kk65 + kk75)), .second, .val (.long kk92), .second, .val (.long ((kk65 + kk75) - kk65)), .second, .val (.ref bR), .val (.long kk261), .second, .val (.long ((2 : Int64) * (kk65 + kk75))), .second, .val (.double r278), .second, .val (.double r287), .second, .unset, .unset] [(.double r287), (.double r278)])) _
    refine XS.dsubS X6.here hx rfl (hb hby at_294) rfl hn294 hv294 ?_
    show Steps p.tables e below (T6.setTop (mkF m 295 #[.val (.int p1), .val (.int p2), .val (.int p3), .val (.int p4), .val (.int p5), .val (.int (p5 &&& (3 : Int32))), .val (.long kk106), .second, .val (.long kk65), .second, .val (.long (kk65 + kk75)), .second, .val (.long kk92), .second, .val (.long ((kk65 + kk75) - kk65)), .second, .val (.ref bR), .val (.long kk261), .second, .val (.long ((2 : Int64) * (kk65 + kk75))), .second, .val (.double r278), .second, .val (.double r287), .second, .unset, .unset] [(.double r294)])) _
    refine XS.lload X6.here hx rfl (hb hby at_295) rfl ?_
    show Steps p.tables e below (T6.setTop (mkF m 297 #[.val (.int p1), .val (.int p2), .val (.int p3), .val (.int p4), .val (.int p5), .val (.int (p5 &&& (3 : Int32))), .val (.long kk106), .second, .val (.long kk65), .second, .val (.long (kk65 + kk75)), .second, .val (.long kk92), .second, .val (.long ((kk65 + kk75) - kk65)), .second, .val (.ref bR), .val (.long kk261), .second, .val (.long ((2 : Int64) * (kk65 + kk75))), .second, .val (.double r278), .second, .val (.double r287), .second, .unset, .unset] [(.long (kk65 + kk75)), (.double r294)])) _
    refine XS.l2dS X6.here hx rfl (hb hby at_297) rfl rfl ?_
    show Steps p.tables e below (T6.setTop (mkF m 298 #[.val (.int p1), .val (.int p2), .val (.int p3), .val (.int p4), .val (.int p5), .val (.int (p5 &&& (3 : Int32))), .val (.long kk106), .second, .val (.long kk65), .second, .val (.long (kk65 + kk75)), .second, .val (.long kk92), .second, .val (.long ((kk65 + kk75) - kk65)), .second, .val (.ref bR), .val (.long kk261), .second, .val (.long ((2 : Int64) * (kk65 + kk75))), .second, .val (.double r278), .second, .val (.double r287), .second, .unset, .unset] [(.double (FP.l2d (kk65 + kk75))), (.double r294)])) _
    refine XS.ddivS X6.here hx rfl (hb hby at_298) rfl hn298 hv298 ?_
    show Steps p.tables e below (T6.setTop (mkF m 299 #[.val (.int p1), .val (.int p2), .val (.int p3), .val (.int p4), .val (.int p5), .val (.int (p5 &&& (3 : Int32))), .val (.long kk106), .second, .val (.long kk65), .second, .val (.long (kk65 + kk75)), .second, .val (.long kk92), .second, .val (.long ((kk65 + kk75) - kk65)), .second, .val (.ref bR), .val (.long kk261), .second, .val (.long ((2 : Int64) * (kk65 + kk75))), .second, .val (.double r278), .second, .val (.double r287), .second, .unset, .unset] [(.double r298)])) _
    refine XS.dstore X6.here hx rfl (hb hby at_299) rfl (l' := #[.val (.int p1), .val (.int p2), .val (.int p3), .val (.int p4), .val (.int p5), .val (.int (p5 &&& (3 : Int32))), .val (.long kk106), .second, .val (.long kk65), .second, .val (.long (kk65 + kk75)), .second, .val (.long kk92), .second, .val (.long ((kk65 + kk75) - kk65)), .second, .val (.ref bR), .val (.long kk261), .second, .val (.long ((2 : Int64) * (kk65 + kk75))), .second, .val (.double r278), .second, .val (.double r287), .second, .val (.double r298), .second]) rfl ?_
    show Steps p.tables e below (T6.setTop (mkF m 301 #[.val (.int p1), .val (.int p2), .val (.int p3), .val (.int p4), .val (.int p5), .val (.int (p5 &&& (3 : Int32))), .val (.long kk106), .second, .val (.long kk65), .second, .val (.long (kk65 + kk75)), .second, .val (.long kk92), .second, .val (.long ((kk65 + kk75) - kk65)), .second, .val (.ref bR), .val (.long kk261), .second, .val (.long ((2 : Int64) * (kk65 + kk75))), .second, .val (.double r278), .second, .val (.double r287), .second, .val (.double r298), .second] [])) _
    refine XS.aload X6.here hx rfl (hb hby at_301) rfl rfl ?_
    show Steps p.tables e below (T6.setTop (mkF m 303 #[.val (.int p1), .val (.int p2), .val (.int p3), .val (.int p4), .val (.int p5), .val (.int (p5 &&& (3 : Int32))), .val (.long kk106), .second, .val (.long kk65), .second, .val (.long (kk65 + kk75)), .second, .val (.long kk92), .second, .val (.long ((kk65 + kk75) - kk65)), .second, .val (.ref bR), .val (.long kk261), .second, .val (.long ((2 : Int64) * (kk65 + kk75))), .second, .val (.double r278), .second, .val (.double r287), .second, .val (.double r298), .second] [(.ref bR)])) _
    refine st7.trans ?_
    show Steps p.tables e below (T7.setTop (mkF m 306 #[.val (.int p1), .val (.int p2), .val (.int p3), .val (.int p4), .val (.int p5), .val (.int (p5 &&& (3 : Int32))), .val (.long kk106), .second, .val (.long kk65), .second, .val (.long (kk65 + kk75)), .second, .val (.long kk92), .second, .val (.long ((kk65 + kk75) - kk65)), .second, .val (.ref bR), .val (.long kk261), .second, .val (.long ((2 : Int64) * (kk65 + kk75))), .second, .val (.double r278), .second, .val (.double r287), .second, .val (.double r298), .second] [(.double tm)])) _
    refine XS.dload X7.here hx rfl (hb hby at_306) rfl ?_
    show Steps p.tables e below (T7.setTop (mkF m 308 #[.val (.int p1), .val (.int p2), .val (.int p3), .val (.int p4), .val (.int p5), .val (.int (p5 &&& (3 : Int32))), .val (.long kk106), .second, .val (.long kk65), .second, .val (.long (kk65 + kk75)), .second, .val (.long kk92), .second, .val (.long ((kk65 + kk75) - kk65)), .second, .val (.ref bR), .val (.long kk261), .second, .val (.long ((2 : Int64) * (kk65 + kk75))), .second, .val (.double r278), .second, .val (.double r287), .second, .val (.double r298), .second] [(.double r287), (.double tm)])) _
    refine XS.dcmpS X7.here hx rfl (hb hby at_308) rfl rfl ?_
    show Steps p.tables e below (T7.setTop (mkF m 309 #[.val (.int p1), .val (.int p2), .val (.int p3), .val (.int p4), .val (.int p5), .val (.int (p5 &&& (3 : Int32))), .val (.long kk106), .second, .val (.long kk65), .second, .val (.long (kk65 + kk75)), .second, .val (.long kk92), .second, .val (.long ((kk65 + kk75) - kk65)), .second, .val (.ref bR), .val (.long kk261), .second, .val (.long ((2 : Int64) * (kk65 + kk75))), .second, .val (.double r278), .second, .val (.double r287), .second, .val (.double r298), .second] [(.int (cmpValue (FP.dcmp tm r287) .l))])) _
    refine XS.ifNo X7.here hx rfl (hb hby at_309) rfl ((if0 _ _).trans (teq hq1).2) ?_
    show Steps p.tables e below (T7.setTop (mkF m 312 #[.val (.int p1), .val (.int p2), .val (.int p3), .val (.int p4), .val (.int p5), .val (.int (p5 &&& (3 : Int32))), .val (.long kk106), .second, .val (.long kk65), .second, .val (.long (kk65 + kk75)), .second, .val (.long kk92), .second, .val (.long ((kk65 + kk75) - kk65)), .second, .val (.ref bR), .val (.long kk261), .second, .val (.long ((2 : Int64) * (kk65 + kk75))), .second, .val (.double r278), .second, .val (.double r287), .second, .val (.double r298), .second] [])) _
    refine XS.aload X7.here hx rfl (hb hby at_312) rfl rfl ?_
    show Steps p.tables e below (T7.setTop (mkF m 314 #[.val (.int p1), .val (.int p2), .val (.int p3), .val (.int p4), .val (.int p5), .val (.int (p5 &&& (3 : Int32))), .val (.long kk106), .second, .val (.long kk65), .second, .val (.long (kk65 + kk75)), .second, .val (.long kk92), .second, .val (.long ((kk65 + kk75) - kk65)), .second, .val (.ref bR), .val (.long kk261), .second, .val (.long ((2 : Int64) * (kk65 + kk75))), .second, .val (.double r278), .second, .val (.double r287), .second, .val (.double r298), .second] [(.ref bR)])) _
    refine st8.trans ?_
    show Steps p.tables e below (T8.setTop (mkF m 317 #[.val (.int p1), .val (.int p2), .val (.int p3), .val (.int p4), .val (.int p5), .val (.int (p5 &&& (3 : Int32))), .val (.long kk106), .second, .val (.long kk65), .second, .val (.long (kk65 + kk75)), .second, .val (.long kk92), .second, .val (.long ((kk65 + kk75) - kk65)), .second, .val (.ref bR), .val (.long kk261), .second, .val (.long ((2 : Int64) * (kk65 + kk75))), .second, .val (.double r278), .second, .val (.double r287), .second, .val (.double r298), .second] [(.double sl)])) _
    refine XS.dload X8.here hx rfl (hb hby at_317) rfl ?_
    show Steps p.tables e below (T8.setTop (mkF m 319 #[.val (.int p1), .val (.int p2), .val (.int p3), .val (.int p4), .val (.int p5), .val (.int (p5 &&& (3 : Int32))), .val (.long kk106), .second, .val (.long kk65), .second, .val (.long (kk65 + kk75)), .second, .val (.long kk92), .second, .val (.long ((kk65 + kk75) - kk65)), .second, .val (.ref bR), .val (.long kk261), .second, .val (.long ((2 : Int64) * (kk65 + kk75))), .second, .val (.double r278), .second, .val (.double r287), .second, .val (.double r298), .second] [(.double r298), (.double sl)])) _
    refine XS.dcmpS X8.here hx rfl (hb hby at_319) rfl rfl ?_
    show Steps p.tables e below (T8.setTop (mkF m 320 #[.val (.int p1), .val (.int p2), .val (.int p3), .val (.int p4), .val (.int p5), .val (.int (p5 &&& (3 : Int32))), .val (.long kk106), .second, .val (.long kk65), .second, .val (.long (kk65 + kk75)), .second, .val (.long kk92), .second, .val (.long ((kk65 + kk75) - kk65)), .second, .val (.ref bR), .val (.long kk261), .second, .val (.long ((2 : Int64) * (kk65 + kk75))), .second, .val (.double r278), .second, .val (.double r287), .second, .val (.double r298), .second] [(.int (cmpValue (FP.dcmp sl r298) .l))])) _
    refine XS.ifNo X8.here hx rfl (hb hby at_320) rfl ((if0 _ _).trans (teq hq2).2) ?_
    show Steps p.tables e below (T8.setTop (mkF m 323 #[.val (.int p1), .val (.int p2), .val (.int p3), .val (.int p4), .val (.int p5), .val (.int (p5 &&& (3 : Int32))), .val (.long kk106), .second, .val (.long kk65), .second, .val (.long (kk65 + kk75)), .second, .val (.long kk92), .second, .val (.long ((kk65 + kk75) - kk65)), .second, .val (.ref bR), .val (.long kk261), .second, .val (.long ((2 : Int64) * (kk65 + kk75))), .second, .val (.double r278), .second, .val (.double r287), .second, .val (.double r298), .second] [])) _
    refine XS.iconst X8.here hx rfl (hb hby at_323) ?_
    show Steps p.tables e below (T8.setTop (mkF m 324 #[.val (.int p1), .val (.int p2), .val (.int p3), .val (.int p4), .val (.int p5), .val (.int (p5 &&& (3 : Int32))), .val (.long kk106), .second, .val (.long kk65), .second, .val (.long (kk65 + kk75)), .second, .val (.long kk92), .second, .val (.long ((kk65 + kk75) - kk65)), .second, .val (.ref bR), .val (.long kk261), .second, .val (.long ((2 : Int64) * (kk65 + kk75))), .second, .val (.double r278), .second, .val (.double r287), .second, .val (.double r298), .second] [(.int (1 : Int32))])) _
    refine XS.goto X8.here hx rfl (pc0 := 324) (pc' := 328) rfl (hb hby at_324) (by decide) (by decide) ?_
    show Steps p.tables e below (T8.setTop (mkF m 328 #[.val (.int p1), .val (.int p2), .val (.int p3), .val (.int p4), .val (.int p5), .val (.int (p5 &&& (3 : Int32))), .val (.long kk106), .second, .val (.long kk65), .second, .val (.long (kk65 + kk75)), .second, .val (.long kk92), .second, .val (.long ((kk65 + kk75) - kk65)), .second, .val (.ref bR), .val (.long kk261), .second, .val (.long ((2 : Int64) * (kk65 + kk75))), .second, .val (.double r278), .second, .val (.double r287), .second, .val (.double r298), .second] [(.int (1 : Int32))])) _
    exact retN X8 hx (t := .boolean) Bd.returns (by simp) (hb hby at_328) hr
  · show QL n0 _ T8.heap _
    exact ⟨rfl, N8⟩
set_option maxRecDepth 65536 in
set_option maxHeartbeats 40000000 in
theorem rm0_ttftff (l : Launch) (Z : State) (a0 : Array Value) (hw : ∀ d ∈ tables_1, d.before a0 Z = true) (ws : List Jvm.Cond) (p1 : Int32) (p2 : Int32) (p3 : Int32) (p4 : Int32) (p5 : Int32) (kk117 : Int64) (kk128 : Int64) (kk136 : Int64) (kk144 : Int64) (kk261 : Int64) (r278 : UInt64) (r287 : UInt64) (r294 : UInt64) (r298 : UInt64) (tm : UInt64) (sl : UInt64) (h0 : Heap) (n0 : Nat) (Z0 : n0 ≤ h0.size) (hc8 : ¬ ((p5 &&& (3 : Int32)) = (0 : Int32))) (hc56 : ¬ ((p5 &&& (3 : Int32)) = (2 : Int32))) (hk117 : ((p2 &&& (1023 : Int32)).toInt64) = kk117) (hk128 : (kk117 + ((1 : Int64) <<< ((p3 &&& (7 : Int32)) &&& 0x3f).toInt64)) = kk128) (hk136 : ((1 : Int64) <<< ((p4 &&& (7 : Int32)) &&& 0x3f).toInt64) = kk136) (hk144 : ((p1 &&& (32767 : Int32)).toInt64) = kk144) (hc174 : (0 : Int32) < (lcmpW (kk128 - kk117) (0 : Int64))) (hc185 : ¬ ((lcmpW kk144 (kk136 * (kk128 - kk117))) < (0 : Int32))) (hk261 : ((((2 : Int64) * kk144) - ((kk128 - kk117) * kk136)) + (2 : Int64)) = kk261) (hv278 : (FP.ddiv (FP.l2d (-kk136)) (4611686018427387904 : UInt64)) = r278) (hn278 : Jvm.Free.Fl.NoNaN64 (FP.ddiv (FP.l2d (-kk136)) (4611686018427387904 : UInt64))) (hv287 : (FP.ddiv (FP.l2d kk261) (FP.l2d ((2 : Int64) * kk128))) = r287) (hn287 : Jvm.Free.Fl.NoNaN64 (FP.ddiv (FP.l2d kk261) (FP.l2d ((2 : Int64) * kk128)))) (hv294 : (FP.dsub r278 r287) = r294) (hn294 : Jvm.Free.Fl.NoNaN64 (FP.dsub r278 r287)) (hv298 : (FP.ddiv r294 (FP.l2d kk128)) = r298) (hn298 : Jvm.Free.Fl.NoNaN64 (FP.ddiv r294 (FP.l2d kk128))) (hq1 : (cmpValue (FP.dcmp tm r287) .l) = (0 : Int32)) (hq2 : (cmpValue (FP.dcmp sl r298) .l) = (0 : Int32)) (hC : MetFree l (⟨"dev/tidemark/usage/WindowQueue", "approximateResponse", "(DDDD)Ldev/tidemark/usage/WindowQueue$Response;"⟩ : MethodName) (head1 (Jvm.Cond.code (⟨"dev/tidemark/usage/WindowQueue", "approximateResponse", "(DDDD)Ldev/tidemark/usage/WindowQueue$Response;"⟩ : MethodName) prog_66_method_7_code 16 (some (.object "dev/tidemark/usage/WindowQueue$Response")) :: []) ({ frames := 3, cells := 1, slots := 2, locals := 41 } : Room)) (fun a U => a = #[(.double (FP.l2d kk144)), (.double (FP.l2d kk117)), (.double (FP.l2d kk128)), (.double (FP.l2d kk136))] ∧ Z.Warmed39 U.vm ∧ U.heap = h0) (fun _ _ _ _ _ => True) (fun _ U o U' => ∃ v L, o = .returned v ∧ Q1 Z tm sl h0 n0 v U'.heap L ∧ FrameEnd U o U' L ({ frames := 3, cells := 1, slots := 2, locals := 41 } : Room).cells ({ frames := 3, cells := 1, slots := 2, locals := 41 } : Room).slots)) :
    MetFree l x (head1 (Jvm.Cond.code x code maxLocals ret :: ws) room_1) (fun a U => a = #[(.int p1), (.int p2), (.int p3), (.int p4), (.int p5)] ∧ Z.Warmed39 U.vm ∧ U.heap = h0) (fun _ _ _ _ _ => True) (fun _ U o U' => ∃ v L, o = .returned v ∧ QL n0 v U'.heap L ∧ FrameEnd U o U' L room_1.cells room_1.slots) := by
  refine MetFree.of_bodySF (plainFor_of_name pn_0) hisR ?_
  intro p e s m args below meth c s₁ Bd hml0 hP hK
  obtain ⟨rfl, hZ, hh⟩ := hP
  have hx := Bd.exec
  have hby := Bd.bytes
  have hml : c.maxLocals = 27 := hml0
  have hown : s.vm.findClass "dev/tidemark/usage/WindowQueueApproximateResponsePinLaw" = some m.cls := findClass_of_methodNamed Bd.named
  have hnm := (name_of_methodNamed Bd.named Bd.method).1
  have X0 : Stand p l e room_1 s m #[(.int p1), (.int p2), (.int p3), (.int p4), (.int p5)] below meth c s₁ [] 0 0 := Stand.of_body Bd
  have e0 : s₁.heap = h0 := by rw [← hh, Bd.state]; rfl
  have N0 := Fr.nil n0
  have pre0 : ∀ t, Steps p.tables e below (s₁.setTop (mkF m 0 #[.val (.int p1), .val (.int p2), .val (.int p3), .val (.int p4), .val (.int p5), .unset, .unset, .unset, .unset, .unset, .unset, .unset, .unset, .unset, .unset, .unset, .unset, .unset, .unset, .unset, .unset, .unset, .unset, .unset, .unset, .unset, .unset] [])) t → Steps p.tables e below (s₁.setTop (entryFrame m #[(.int p1), (.int p2), (.int p3), (.int p4), (.int p5)] maxLocals)) t := fun t k => castTop (ef_0 m p1 p2 p3 p4 p5) k
  obtain ⟨_, _, ⟨T6, L6, k6, n6⟩, -, X6, ⟨Lc6, hQ6, l6, y6, z6⟩, st6⟩ := Jvm.LawKit.callS X0 hx (y := (⟨"dev/tidemark/usage/WindowQueue", "approximateResponse", "(DDDD)Ldev/tidemark/usage/WindowQueue$Response;"⟩ : MethodName)) hown (mvT hZ (hw _ (List.mem_of_getElem? (i := 0) rfl))) (mvT hZ (hw _ (List.mem_of_getElem? (i := 1) rfl))) (mvT hZ (hw _ (List.mem_of_getElem? (i := 2) rfl))) (mvT hZ (hw _ (List.mem_of_getElem? (i := 3) rfl))) (by decide) (backOf (W := 0) hC hZ (hw _ (List.mem_of_getElem? (i := 3) rfl)) (hw _ (List.mem_of_getElem? (i := 2) rfl)) (by decide) (by decide)) (g := (mkF m 165 #[.val (.int p1), .val (.int p2), .val (.int p3), .val (.int p4), .val (.int p5), .val (.int (p5 &&& (3 : Int32))), .val (.long kk144), .second, .val (.long kk117), .second, .val (.long kk128), .second, .val (.long kk136), .second, .val (.long (kk128 - kk117)), .second, .unset, .unset, .unset, .unset, .unset, .unset, .unset, .unset, .unset, .unset, .unset] [(.double (FP.l2d kk136)), (.double (FP.l2d kk128)), (.double (FP.l2d kk117)), (.double (FP.l2d kk144))])) rfl (by rw [hml]; rfl) (argsL := [(.double (FP.l2d kk144)), (.double (FP.l2d kk117)), (.double (FP.l2d kk128)), (.double (FP.l2d kk136))]) (rest := []) (lenOf pd_0_0 rfl) rfl (by show 2 * 0 + _ ≤ _; exact Nat.le_of_eq rfl) (hb hby at_165) (fun _ _ => ⟨rfl, e0, (by decide : 0 + 1 ≤ _), (by decide : 0 + 2 ≤ _)⟩)
  dsimp only [Pt.U, Pt.locs, Pt.cells, Pt.slots] at X6 l6 y6 z6 st6 hQ6
  subst l6 y6 z6
  obtain ⟨bR, rfl, N6q, K6c, E6, Ft6, Fs6⟩ := hQ6
  have Z6 : n0 ≤ T6.heap.size := Nat.le_trans Z0 K6c.1
  have N6 := Fr.app N0 N6q
  obtain ⟨cq7, kq7, q7a, q7b, q7c⟩ := isOf hZ rfl (E6.keep (Keep.refl _ []))
  obtain ⟨_, _, ⟨T7, L7, k7, n7⟩, -, X7, ⟨Lc7, hQ7, l7, y7, z7⟩, st7⟩ := X6.virtualBack hx (y := (⟨"dev/tidemark/usage/WindowQueue$Response", "time", "()D"⟩ : MethodName)) (z := (⟨"dev/tidemark/usage/WindowQueue$Response", "time", "()D"⟩ : MethodName)) hown (mvT hZ (hw _ (List.mem_of_getElem? (i := 25) rfl))) (mvT hZ (hw _ (List.mem_of_getElem? (i := 26) rfl))) (notFace_of_selects (args := #[]) (mvT hZ (hw _ (List.mem_of_getElem? (i := 28) rfl)))) (mvT hZ (hw _ (List.mem_of_getElem? (i := 28) rfl))) (mvT hZ (hw _ (List.mem_of_getElem? (i := 27) rfl))) (by decide) (backOf (W := 0) (rm5 l Z a0 hw [] bR tm T6.heap n0 Z6 Ft6) hZ (hw _ (List.mem_of_getElem? (i := 29) rfl)) (hw _ (List.mem_of_getElem? (i := 7) rfl)) (by decide) (by decide)) q7a q7c (g := (mkF m 303 #[.val (.int p1), .val (.int p2), .val (.int p3), .val (.int p4), .val (.int p5), .val (.int (p5 &&& (3 : Int32))), .val (.long kk144), .second, .val (.long kk117), .second, .val (.long kk128), .second, .val (.long kk136), .second, .val (.long (kk128 - kk117)), .second, .val (.ref bR), .val (.long kk261), .second, .val (.long ((2 : Int64) * kk128)), .second, .val (.double r278), .second, .val (.double r287), .second, .val (.double r298), .second] [(.ref bR)])) rfl (by rw [hml]; rfl) (Steps.refl _) (argsL := []) (rest := []) (lenOf pd_0_3 rfl) rfl (by show 2 * 0 + _ ≤ _; exact Nat.le_of_eq rfl) (hb hby at_303) (fun _ _ => ⟨rfl, rfl, (by decide : 1 + 0 ≤ _), (by decide : 2 + 0 ≤ _)⟩)
  dsimp only [Pt.U, Pt.locs, Pt.cells, Pt.slots] at X7 l7 y7 z7 st7 hQ7
  subst l7 y7 z7
  obtain ⟨rfl, N7q, eh7⟩ := hQ7
  have K7c : Keep T6.heap T7.heap [] := by rw [eh7]; exact Keep.refl _ _
  have Z7 : n0 ≤ T7.heap.size := Nat.le_trans Z6 K7c.1
  have N7 := Fr.app N6 N7q
  obtain ⟨cq8, kq8, q8a, q8b, q8c⟩ := isOf hZ rfl ((E6.keep (Keep.refl _ [])).keep K7c)
  obtain ⟨_, _, ⟨T8, L8, k8, n8⟩, -, X8, ⟨Lc8, hQ8, l8, y8, z8⟩, st8⟩ := X7.virtualBack hx (y := (⟨"dev/tidemark/usage/WindowQueue$Response", "slope", "()D"⟩ : MethodName)) (z := (⟨"dev/tidemark/usage/WindowQueue$Response", "slope", "()D"⟩ : MethodName)) hown (mvT hZ (hw _ (List.mem_of_getElem? (i := 30) rfl))) (mvT hZ (hw _ (List.mem_of_getElem? (i := 31) rfl))) (notFace_of_selects (args := #[]) (mvT hZ (hw _ (List.mem_of_getElem? (i := 33) rfl)))) (mvT hZ (hw _ (List.mem_of_getElem? (i := 33) rfl))) (mvT hZ (hw _ (List.mem_of_getElem? (i := 32) rfl))) (by decide) (backOf (W := 0) (rm6 l Z a0 hw [] bR sl T7.heap n0 Z7 (Fs6.keep K7c (by simp))) hZ (hw _ (List.mem_of_getElem? (i := 34) rfl)) (hw _ (List.mem_of_getElem? (i := 7) rfl)) (by decide) (by decide)) q8a q8c (g := (mkF m 314 #[.val (.int p1), .val (.int p2), .val (.int p3), .val (.int p4), .val (.int p5), .val (.int (p5 &&& (3 : Int32))), .val (.long kk144), .second, .val (.long kk117), .second, .val (.long kk128), .second, .val (.long kk136), .second, .val (.long (kk128 - kk117)), .second, .val (.ref bR), .val (.long kk261), .second, .val (.long ((2 : Int64) * kk128)), .second, .val (.double r278), .second, .val (.double r287), .second, .val (.double r298), .second] [(.ref bR)])) rfl (by rw [hml]; rfl) (Steps.refl _) (argsL := []) (rest := []) (lenOf pd_0_3 rfl) rfl (by show 2 * 0 + _ ≤ _; exact Nat.le_of_eq rfl) (hb hby at_314) (fun _ _ => ⟨rfl, rfl, (by decide : 1 + 0 ≤ _), (by decide : 2 + 0 ≤ _)⟩)
  dsimp only [Pt.U, Pt.locs, Pt.cells, Pt.slots] at X8 l8 y8 z8 st8 hQ8
  subst l8 y8 z8
  obtain ⟨rfl, N8q, eh8⟩ := hQ8
  have N8 := Fr.app N7 N8q
  obtain ⟨fs, hr, hrun, hended, hW, hsame⟩ := X8.leave (v := some (.int (1 : Int32))) (fun h => by rw [Bd.returns] at h; cases h)
  refine ⟨_, _, pre0 _ ?_, hrun, hended, _, _, rfl, ?_, ⟨_, rfl⟩, hW, hsame.mono (by decide) (by decide)⟩
  · show Steps p.tables e below (s₁.setTop (mkF m 0 #[.val (.int p1), .val (.int p2), .val (.int p3), .val (.int p4), .val (.int p5), .unset, .unset, .unset, .unset, .unset, .unset, .unset, .unset, .unset, .unset, .unset, .unset, .unset, .unset, .unset, .unset, .unset, .unset, .unset, .unset, .unset, .unset] [])) _
    refine XS.iload X0.here hx rfl (hb hby at_0) rfl ?_
    show Steps p.tables e below (s₁.setTop (mkF m 2 #[.val (.int p1), .val (.int p2), .val (.int p3), .val (.int p4), .val (.int p5), .unset, .unset, .unset, .unset, .unset, .unset, .unset, .unset, .unset, .unset, .unset, .unset, .unset, .unset, .unset, .unset, .unset, .unset, .unset, .unset, .unset, .unset] [(.int p5)])) _
    refine XS.iconst X0.here hx rfl (hb hby at_2) ?_
    show Steps p.tables e below (s₁.setTop (mkF m 3 #[.val (.int p1), .val (.int p2), .val (.int p3), .val (.int p4), .val (.int p5), .unset, .unset, .unset, .unset, .unset, .unset, .unset, .unset, .unset, .unset, .unset, .unset, .unset, .unset, .unset, .unset, .unset, .unset, .unset, .unset, .unset, .unset] [(.int (3 : Int32)), (.int p5)])) _
    refine XS.iand X0.here hx rfl (hb hby at_3) rfl ?_
    show Steps p.tables e below (s₁.setTop (mkF m 4 #[.val (.int p1), .val (.int p2), .val (.int p3), .val (.int p4), .val (.int p5), .unset, .unset, .unset, .unset, .unset, .unset, .unset, .unset, .unset, .unset, .unset, .unset, .unset, .unset, .unset, .unset, .unset, .unset, .unset, .unset, .unset, .unset] [(.int (p5 &&& (3 : Int32)))])) _
    refine XS.istore X0.here hx rfl (hb hby at_4) rfl (l' := #[.val (.int p1), .val (.int p2), .val (.int p3), .val (.int p4), .val (.int p5), .val (.int (p5 &&& (3 : Int32))), .unset, .unset, .unset, .unset, .unset, .unset, .unset, .unset, .unset, .unset, .unset, .unset, .unset, .unset, .unset, .unset, .unset, .unset, .unset, .unset, .unset]) rfl ?_
    show Steps p.tables e below (s₁.setTop (mkF m 6 #[.val (.int p1), .val (.int p2), .val (.int p3), .val (.int p4), .val (.int p5), .val (.int (p5 &&& (3 : Int32))), .unset, .unset, .unset, .unset, .unset, .unset, .unset, .unset, .unset, .unset, .unset, .unset, .unset, .unset, .unset, .unset, .unset, .unset, .unset, .unset, .unset] [])) _
    refine XS.iload X0.here hx rfl (hb hby at_6) rfl ?_
    show Steps p.tables e below (s₁.setTop (mkF m 8 #[.val (.int p1), .val (.int p2), .val (.int p3), .val (.int p4), .val (.int p5), .val (.int (p5 &&& (3 : Int32))), .unset, .unset, .unset, .unset, .unset, .unset, .unset, .unset, .unset, .unset, .unset, .unset, .unset, .unset, .unset, .unset, .unset, .unset, .unset, .unset, .unset] [(.int (p5 &&& (3 : Int32)))])) _
    refine XS.ifYes X0.here hx rfl (pc0 := 8) (pc' := 53) rfl (hb hby at_8) rfl ((if0 _ _).trans (feq hc8).2) (by decide) (by decide) ?_
    show Steps p.tables e below (s₁.setTop (mkF m 53 #[.val (.int p1), .val (.int p2), .val (.int p3), .val (.int p4), .val (.int p5), .val (.int (p5 &&& (3 : Int32))), .unset, .unset, .unset, .unset, .unset, .unset, .unset, .unset, .unset, .unset, .unset, .unset, .unset, .unset, .unset, .unset, .unset, .unset, .unset, .unset, .unset] [])) _
    refine XS.iload X0.here hx rfl (hb hby at_53) rfl ?_
    show Steps p.tables e below (s₁.setTop (mkF m 55 #[.val (.int p1), .val (.int p2), .val (.int p3), .val (.int p4), .val (.int p5), .val (.int (p5 &&& (3 : Int32))), .unset, .unset, .unset, .unset, .unset, .unset, .unset, .unset, .unset, .unset, .unset, .unset, .unset, .unset, .unset, .unset, .unset, .unset, .unset, .unset, .unset] [(.int (p5 &&& (3 : Int32)))])) _
    refine XS.iconst X0.here hx rfl (hb hby at_55) ?_
    show Steps p.tables e below (s₁.setTop (mkF m 56 #[.val (.int p1), .val (.int p2), .val (.int p3), .val (.int p4), .val (.int p5), .val (.int (p5 &&& (3 : Int32))), .unset, .unset, .unset, .unset, .unset, .unset, .unset, .unset, .unset, .unset, .unset, .unset, .unset, .unset, .unset, .unset, .unset, .unset, .unset, .unset, .unset] [(.int (2 : Int32)), (.int (p5 &&& (3 : Int32)))])) _
    refine XS.icmpYes X0.here hx rfl (pc0 := 56) (pc' := 111) rfl (hb hby at_56) rfl (feq hc56).2 (by decide) (by decide) ?_
    show Steps p.tables e below (s₁.setTop (mkF m 111 #[.val (.int p1), .val (.int p2), .val (.int p3), .val (.int p4), .val (.int p5), .val (.int (p5 &&& (3 : Int32))), .unset, .unset, .unset, .unset, .unset, .unset, .unset, .unset, .unset, .unset, .unset, .unset, .unset, .unset, .unset, .unset, .unset, .unset, .unset, .unset, .unset] [])) _
    refine XS.iloadN X0.here hx rfl (hb hby at_111) rfl ?_
    show Steps p.tables e below (s₁.setTop (mkF m 112 #[.val (.int p1), .val (.int p2), .val (.int p3), .val (.int p4), .val (.int p5), .val (.int (p5 &&& (3 : Int32))), .unset, .unset, .unset, .unset, .unset, .unset, .unset, .unset, .unset, .unset, .unset, .unset, .unset, .unset, .unset, .unset, .unset, .unset, .unset, .unset, .unset] [(.int p2)])) _
    refine XS.sipush X0.here hx rfl (hb hby at_112) ?_
    show Steps p.tables e below (s₁.setTop (mkF m 115 #[.val (.int p1), .val (.int p2), .val (.int p3), .val (.int p4), .val (.int p5), .val (.int (p5 &&& (3 : Int32))), .unset, .unset, .unset, .unset, .unset, .unset, .unset, .unset, .unset, .unset, .unset, .unset, .unset, .unset, .unset, .unset, .unset, .unset, .unset, .unset, .unset] [(.int (1023 : Int32)), (.int p2)])) _
    refine XS.iand X0.here hx rfl (hb hby at_115) rfl ?_
    show Steps p.tables e below (s₁.setTop (mkF m 116 #[.val (.int p1), .val (.int p2), .val (.int p3), .val (.int p4), .val (.int p5), .val (.int (p5 &&& (3 : Int32))), .unset, .unset, .unset, .unset, .unset, .unset, .unset, .unset, .unset, .unset, .unset, .unset, .unset, .unset, .unset, .unset, .unset, .unset, .unset, .unset, .unset] [(.int (p2 &&& (1023 : Int32)))])) _
    refine XS.i2l X0.here hx rfl (hb hby at_116) rfl ?_
    show Steps p.tables e below (s₁.setTop (mkF m 117 #[.val (.int p1), .val (.int p2), .val (.int p3), .val (.int p4), .val (.int p5), .val (.int (p5 &&& (3 : Int32))), .unset, .unset, .unset, .unset, .unset, .unset, .unset, .unset, .unset, .unset, .unset, .unset, .unset, .unset, .unset, .unset, .unset, .unset, .unset, .unset, .unset] [(.long ((p2 &&& (1023 : Int32)).toInt64))])) _
    refine XS.lstore X0.here hx rfl (hb hby at_117) rfl (l' := #[.val (.int p1), .val (.int p2), .val (.int p3), .val (.int p4), .val (.int p5), .val (.int (p5 &&& (3 : Int32))), .unset, .unset, .val (.long ((p2 &&& (1023 : Int32)).toInt64)), .second, .unset, .unset, .unset, .unset, .unset, .unset, .unset, .unset, .unset, .unset, .unset, .unset, .unset, .unset, .unset, .unset, .unset]) rfl ?_
    show Steps p.tables e below (s₁.setTop (mkF m 119 #[.val (.int p1), .val (.int p2), .val (.int p3), .val (.int p4), .val (.int p5), .val (.int (p5 &&& (3 : Int32))), .unset, .unset, .val (.long ((p2 &&& (1023 : Int32)).toInt64)), .second, .unset, .unset, .unset, .unset, .unset, .unset, .unset, .unset, .unset, .unset, .unset, .unset, .unset, .unset, .unset, .unset, .unset] [])) _
    rw [hk117]
    show Steps p.tables e below (s₁.setTop (mkF m 119 #[.val (.int p1), .val (.int p2), .val (.int p3), .val (.int p4), .val (.int p5), .val (.int (p5 &&& (3 : Int32))), .unset, .unset, .val (.long kk117), .second, .unset, .unset, .unset, .unset, .unset, .unset, .unset, .unset, .unset, .unset, .unset, .unset, .unset, .unset, .unset, .unset, .unset] [])) _
    refine XS.lload X0.here hx rfl (hb hby at_119) rfl ?_
    show Steps p.tables e below (s₁.setTop (mkF m 121 #[.val (.int p1), .val (.int p2), .val (.int p3), .val (.int p4), .val (.int p5), .val (.int (p5 &&& (3 : Int32))), .unset, .unset, .val (.long kk117), .second, .unset, .unset, .unset, .unset, .unset, .unset, .unset, .unset, .unset, .unset, .unset, .unset, .unset, .unset, .unset, .unset, .unset] [(.long kk117)])) _
    refine XS.lconst X0.here hx rfl (hb hby at_121) ?_
    show Steps p.tables e below (s₁.setTop (mkF m 122 #[.val (.int p1), .val (.int p2), .val (.int p3), .val (.int p4), .val (.int p5), .val (.int (p5 &&& (3 : Int32))), .unset, .unset, .val (.long kk117), .second, .unset, .unset, .unset, .unset, .unset, .unset, .unset, .unset, .unset, .unset, .unset, .unset, .unset, .unset, .unset, .unset, .unset] [(.long (1 : Int64)), (.long kk117)])) _
    refine XS.iloadN X0.here hx rfl (hb hby at_122) rfl ?_
    show Steps p.tables e below (s₁.setTop (mkF m 123 #[.val (.int p1), .val (.int p2), .val (.int p3), .val (.int p4), .val (.int p5), .val (.int (p5 &&& (3 : Int32))), .unset, .unset, .val (.long kk117), .second, .unset, .unset, .unset, .unset, .unset, .unset, .unset, .unset, .unset, .unset, .unset, .unset, .unset, .unset, .unset, .unset, .unset] [(.int p3), (.long (1 : Int64)), (.long kk117)])) _
    refine XS.bipush X0.here hx rfl (hb hby at_123) ?_
    show Steps p.tables e below (s₁.setTop (mkF m 125 #[.val (.int p1), .val (.int p2), .val (.int p3), .val (.int p4), .val (.int p5), .val (.int (p5 &&& (3 : Int32))), .unset, .unset, .val (.long kk117), .second, .unset, .unset, .unset, .unset, .unset, .unset, .unset, .unset, .unset, .unset, .unset, .unset, .unset, .unset, .unset, .unset, .unset] [(.int (7 : Int32)), (.int p3), (.long (1 : Int64)), (.long kk117)])) _
    refine XS.iand X0.here hx rfl (hb hby at_125) rfl ?_
    show Steps p.tables e below (s₁.setTop (mkF m 126 #[.val (.int p1), .val (.int p2), .val (.int p3), .val (.int p4), .val (.int p5), .val (.int (p5 &&& (3 : Int32))), .unset, .unset, .val (.long kk117), .second, .unset, .unset, .unset, .unset, .unset, .unset, .unset, .unset, .unset, .unset, .unset, .unset, .unset, .unset, .unset, .unset, .unset] [(.int (p3 &&& (7 : Int32))), (.long (1 : Int64)), (.long kk117)])) _
    refine XS.lshl X0.here hx rfl (hb hby at_126) rfl ?_
    show Steps p.tables e below (s₁.setTop (mkF m 127 #[.val (.int p1), .val (.int p2), .val (.int p3), .val (.int p4), .val (.int p5), .val (.int (p5 &&& (3 : Int32))), .unset, .unset, .val (.long kk117), .second, .unset, .unset, .unset, .unset, .unset, .unset, .unset, .unset, .unset, .unset, .unset, .unset, .unset, .unset, .unset, .unset, .unset] [(.long ((1 : Int64) <<< ((p3 &&& (7 : Int32)) &&& 0x3f).toInt64)), (.long kk117)])) _
    refine XS.ladd X0.here hx rfl (hb hby at_127) rfl ?_
    show Steps p.tables e below (s₁.setTop (mkF m 128 #[.val (.int p1), .val (.int p2), .val (.int p3), .val (.int p4), .val (.int p5), .val (.int (p5 &&& (3 : Int32))), .unset, .unset, .val (.long kk117), .second, .unset, .unset, .unset, .unset, .unset, .unset, .unset, .unset, .unset, .unset, .unset, .unset, .unset, .unset, .unset, .unset, .unset] [(.long (kk117 + ((1 : Int64) <<< ((p3 &&& (7 : Int32)) &&& 0x3f).toInt64)))])) _
    refine XS.lstore X0.here hx rfl (hb hby at_128) rfl (l' := #[.val (.int p1), .val (.int p2), .val (.int p3), .val (.int p4), .val (.int p5), .val (.int (p5 &&& (3 : Int32))), .unset, .unset, .val (.long kk117), .second, .val (.long (kk117 + ((1 : Int64) <<< ((p3 &&& (7 : Int32)) &&& 0x3f).toInt64))), .second, .unset, .unset, .unset, .unset, .unset, .unset, .unset, .unset, .unset, .unset, .unset, .unset, .unset, .unset, .unset]) rfl ?_
    show Steps p.tables e below (s₁.setTop (mkF m 130 #[.val (.int p1), .val (.int p2), .val (.int p3), .val (.int p4), .val (.int p5), .val (.int (p5 &&& (3 : Int32))), .unset, .unset, .val (.long kk117), .second, .val (.long (kk117 + ((1 : Int64) <<< ((p3 &&& (7 : Int32)) &&& 0x3f).toInt64))), .second, .unset, .unset, .unset, .unset, .unset, .unset, .unset, .unset, .unset, .unset, .unset, .unset, .unset, .unset, .unset] [])) _
    rw [hk128]
    show Steps p.tables e below (s₁.setTop (mkF m 130 #[.val (.int p1), .val (.int p2), .val (.int p3), .val (.int p4), .val (.int p5), .val (.int (p5 &&& (3 : Int32))), .unset, .unset, .val (.long kk117), .second, .val (.long kk128), .second, .unset, .unset, .unset, .unset, .unset, .unset, .unset, .unset, .unset, .unset, .unset, .unset, .unset, .unset, .unset] [])) _
    refine XS.lconst X0.here hx rfl (hb hby at_130) ?_
    show Steps p.tables e below (s₁.setTop (mkF m 131 #[.val (.int p1), .val (.int p2), .val (.int p3), .val (.int p4), .val (.int p5), .val (.int (p5 &&& (3 : Int32))), .unset, .unset, .val (.long kk117), .second, .val (.long kk128), .second, .unset, .unset, .unset, .unset, .unset, .unset, .unset, .unset, .unset, .unset, .unset, .unset, .unset, .unset, .unset] [(.long (1 : Int64))])) _
    refine XS.iloadN X0.here hx rfl (hb hby at_131) rfl ?_
    show Steps p.tables e below (s₁.setTop (mkF m 132 #[.val (.int p1), .val (.int p2), .val (.int p3), .val (.int p4), .val (.int p5), .val (.int (p5 &&& (3 : Int32))), .unset, .unset, .val (.long kk117), .second, .val (.long kk128), .second, .unset, .unset, .unset, .unset, .unset, .unset, .unset, .unset, .unset, .unset, .unset, .unset, .unset, .unset, .unset] [(.int p4), (.long (1 : Int64))])) _
    refine XS.bipush X0.here hx rfl (hb hby at_132) ?_
    show Steps p.tables e below (s₁.setTop (mkF m 134 #[.val (.int p1), .val (.int p2), .val (.int p3), .val (.int p4), .val (.int p5), .val (.int (p5 &&& (3 : Int32))), .unset, .unset, .val (.long kk117), .second, .val (.long kk128), .second, .unset, .unset, .unset, .unset, .unset, .unset, .unset, .unset, .unset, .unset, .unset, .unset, .unset, .unset, .unset] [(.int (7 : Int32)), (.int p4), (.long (1 : Int64))])) _
    refine XS.iand X0.here hx rfl (hb hby at_134) rfl ?_
    show Steps p.tables e below (s₁.setTop (mkF m 135 #[.val (.int p1), .val (.int p2), .val (.int p3), .val (.int p4), .val (.int p5), .val (.int (p5 &&& (3 : Int32))), .unset, .unset, .val (.long kk117), .second, .val (.long kk128), .second, .unset, .unset, .unset, .unset, .unset, .unset, .unset, .unset, .unset, .unset, .unset, .unset, .unset, .unset, .unset] [(.int (p4 &&& (7 : Int32))), (.long (1 : Int64))])) _
    refine XS.lshl X0.here hx rfl (hb hby at_135) rfl ?_
    show Steps p.tables e below (s₁.setTop (mkF m 136 #[.val (.int p1), .val (.int p2), .val (.int p3), .val (.int p4), .val (.int p5), .val (.int (p5 &&& (3 : Int32))), .unset, .unset, .val (.long kk117), .second, .val (.long kk128), .second, .unset, .unset, .unset, .unset, .unset, .unset, .unset, .unset, .unset, .unset, .unset, .unset, .unset, .unset, .unset] [(.long ((1 : Int64) <<< ((p4 &&& (7 : Int32)) &&& 0x3f).toInt64))])) _
    refine XS.lstore X0.here hx rfl (hb hby at_136) rfl (l' := #[.val (.int p1), .val (.int p2), .val (.int p3), .val (.int p4), .val (.int p5), .val (.int (p5 &&& (3 : Int32))), .unset, .unset, .val (.long kk117), .second, .val (.long kk128), .second, .val (.long ((1 : Int64) <<< ((p4 &&& (7 : Int32)) &&& 0x3f).toInt64)), .second, .unset, .unset, .unset, .unset, .unset, .unset, .unset, .unset, .unset, .unset, .unset, .unset, .unset]) rfl ?_
    show Steps p.tables e below (s₁.setTop (mkF m 138 #[.val (.int p1), .val (.int p2), .val (.int p3), .val (.int p4), .val (.int p5), .val (.int (p5 &&& (3 : Int32))), .unset, .unset, .val (.long kk117), .second, .val (.long kk128), .second, .val (.long ((1 : Int64) <<< ((p4 &&& (7 : Int32)) &&& 0x3f).toInt64)), .second, .unset, .unset, .unset, .unset, .unset, .unset, .unset, .unset, .unset, .unset, .unset, .unset, .unset] [])) _
    rw [hk136]
    show Steps p.tables e below (s₁.setTop (mkF m 138 #[.val (.int p1), .val (.int p2), .val (.int p3), .val (.int p4), .val (.int p5), .val (.int (p5 &&& (3 : Int32))), .unset, .unset, .val (.long kk117), .second, .val (.long kk128), .second, .val (.long kk136), .second, .unset, .unset, .unset, .unset, .unset, .unset, .unset, .unset, .unset, .unset, .unset, .unset, .unset] [])) _
    refine XS.iloadN X0.here hx rfl (hb hby at_138) rfl ?_
    show Steps p.tables e below (s₁.setTop (mkF m 139 #[.val (.int p1), .val (.int p2), .val (.int p3), .val (.int p4), .val (.int p5), .val (.int (p5 &&& (3 : Int32))), .unset, .unset, .val (.long kk117), .second, .val (.long kk128), .second, .val (.long kk136), .second, .unset, .unset, .unset, .unset, .unset, .unset, .unset, .unset, .unset, .unset, .unset, .unset, .unset] [(.int p1)])) _
    refine XS.sipush X0.here hx rfl (hb hby at_139) ?_
    show Steps p.tables e below (s₁.setTop (mkF m 142 #[.val (.int p1), .val (.int p2), .val (.int p3), .val (.int p4), .val (.int p5), .val (.int (p5 &&& (3 : Int32))), .unset, .unset, .val (.long kk117), .second, .val (.long kk128), .second, .val (.long kk136), .second, .unset, .unset, .unset, .unset, .unset, .unset, .unset, .unset, .unset, .unset, .unset, .unset, .unset] [(.int (32767 : Int32)), (.int p1)])) _
    refine XS.iand X0.here hx rfl (hb hby at_142) rfl ?_
    show Steps p.tables e below (s₁.setTop (mkF m 143 #[.val (.int p1), .val (.int p2), .val (.int p3), .val (.int p4), .val (.int p5), .val (.int (p5 &&& (3 : Int32))), .unset, .unset, .val (.long kk117), .second, .val (.long kk128), .second, .val (.long kk136), .second, .unset, .unset, .unset, .unset, .unset, .unset, .unset, .unset, .unset, .unset, .unset, .unset, .unset] [(.int (p1 &&& (32767 : Int32)))])) _
    refine XS.i2l X0.here hx rfl (hb hby at_143) rfl ?_
    show Steps p.tables e below (s₁.setTop (mkF m 144 #[.val (.int p1), .val (.int p2), .val (.int p3), .val (.int p4), .val (.int p5), .val (.int (p5 &&& (3 : Int32))), .unset, .unset, .val (.long kk117), .second, .val (.long kk128), .second, .val (.long kk136), .second, .unset, .unset, .unset, .unset, .unset, .unset, .unset, .unset, .unset, .unset, .unset, .unset, .unset] [(.long ((p1 &&& (32767 : Int32)).toInt64))])) _
    refine XS.lstore X0.here hx rfl (hb hby at_144) rfl (l' := #[.val (.int p1), .val (.int p2), .val (.int p3), .val (.int p4), .val (.int p5), .val (.int (p5 &&& (3 : Int32))), .val (.long ((p1 &&& (32767 : Int32)).toInt64)), .second, .val (.long kk117), .second, .val (.long kk128), .second, .val (.long kk136), .second, .unset, .unset, .unset, .unset, .unset, .unset, .unset, .unset, .unset, .unset, .unset, .unset, .unset]) rfl ?_
    show Steps p.tables e below (s₁.setTop (mkF m 146 #[.val (.int p1), .val (.int p2), .val (.int p3), .val (.int p4), .val (.int p5), .val (.int (p5 &&& (3 : Int32))), .val (.long ((p1 &&& (32767 : Int32)).toInt64)), .second, .val (.long kk117), .second, .val (.long kk128), .second, .val (.long kk136), .second, .unset, .unset, .unset, .unset, .unset, .unset, .unset, .unset, .unset, .unset, .unset, .unset, .unset] [])) _
    rw [hk144]
    show Steps p.tables e below (s₁.setTop (mkF m 146 #[.val (.int p1), .val (.int p2), .val (.int p3), .val (.int p4), .val (.int p5), .val (.int (p5 &&& (3 : Int32))), .val (.long kk144), .second, .val (.long kk117), .second, .val (.long kk128), .second, .val (.long kk136), .second, .unset, .unset, .unset, .unset, .unset, .unset, .unset, .unset, .unset, .unset, .unset, .unset, .unset] [])) _
    refine XS.lload X0.here hx rfl (hb hby at_146) rfl ?_
    show Steps p.tables e below (s₁.setTop (mkF m 148 #[.val (.int p1), .val (.int p2), .val (.int p3), .val (.int p4), .val (.int p5), .val (.int (p5 &&& (3 : Int32))), .val (.long kk144), .second, .val (.long kk117), .second, .val (.long kk128), .second, .val (.long kk136), .second, .unset, .unset, .unset, .unset, .unset, .unset, .unset, .unset, .unset, .unset, .unset, .unset, .unset] [(.long kk128)])) _
    refine XS.lload X0.here hx rfl (hb hby at_148) rfl ?_
    show Steps p.tables e below (s₁.setTop (mkF m 150 #[.val (.int p1), .val (.int p2), .val (.int p3), .val (.int p4), .val (.int p5), .val (.int (p5 &&& (3 : Int32))), .val (.long kk144), .second, .val (.long kk117), .second, .val (.long kk128), .second, .val (.long kk136), .second, .unset, .unset, .unset, .unset, .unset, .unset, .unset, .unset, .unset, .unset, .unset, .unset, .unset] [(.long kk117), (.long kk128)])) _
    refine XS.lsub X0.here hx rfl (hb hby at_150) rfl ?_
    show Steps p.tables e below (s₁.setTop (mkF m 151 #[.val (.int p1), .val (.int p2), .val (.int p3), .val (.int p4), .val (.int p5), .val (.int (p5 &&& (3 : Int32))), .val (.long kk144), .second, .val (.long kk117), .second, .val (.long kk128), .second, .val (.long kk136), .second, .unset, .unset, .unset, .unset, .unset, .unset, .unset, .unset, .unset, .unset, .unset, .unset, .unset] [(.long (kk128 - kk117))])) _
    refine XS.lstore X0.here hx rfl (hb hby at_151) rfl (l' := #[.val (.int p1), .val (.int p2), .val (.int p3), .val (.int p4), .val (.int p5), .val (.int (p5 &&& (3 : Int32))), .val (.long kk144), .second, .val (.long kk117), .second, .val (.long kk128), .second, .val (.long kk136), .second, .val (.long (kk128 - kk117)), .second, .unset, .unset, .unset, .unset, .unset, .unset, .unset, .unset, .unset, .unset, .unset]) rfl ?_
    show Steps p.tables e below (s₁.setTop (mkF m 153 #[.val (.int p1), .val (.int p2), .val (.int p3), .val (.int p4), .val (.int p5), .val (.int (p5 &&& (3 : Int32))), .val (.long kk144), .second, .val (.long kk117), .second, .val (.long kk128), .second, .val (.long kk136), .second, .val (.long (kk128 - kk117)), .second, .unset, .unset, .unset, .unset, .unset, .unset, .unset, .unset, .unset, .unset, .unset] [])) _
    refine XS.lload X0.here hx rfl (hb hby at_153) rfl ?_
    show Steps p.tables e below (s₁.setTop (mkF m 155 #[.val (.int p1), .val (.int p2), .val (.int p3), .val (.int p4), .val (.int p5), .val (.int (p5 &&& (3 : Int32))), .val (.long kk144), .second, .val (.long kk117), .second, .val (.long kk128), .second, .val (.long kk136), .second, .val (.long (kk128 - kk117)), .second, .unset, .unset, .unset, .unset, .unset, .unset, .unset, .unset, .unset, .unset, .unset] [(.long kk144)])) _
    refine XS.l2dS X0.here hx rfl (hb hby at_155) rfl rfl ?_
    show Steps p.tables e below (s₁.setTop (mkF m 156 #[.val (.int p1), .val (.int p2), .val (.int p3), .val (.int p4), .val (.int p5), .val (.int (p5 &&& (3 : Int32))), .val (.long kk144), .second, .val (.long kk117), .second, .val (.long kk128), .second, .val (.long kk136), .second, .val (.long (kk128 - kk117)), .second, .unset, .unset, .unset, .unset, .unset, .unset, .unset, .unset, .unset, .unset, .unset] [(.double (FP.l2d kk144))])) _
    refine XS.lload X0.here hx rfl (hb hby at_156) rfl ?_
    show Steps p.tables e below (s₁.setTop (mkF m 158 #[.val (.int p1), .val (.int p2), .val (.int p3), .val (.int p4), .val (.int p5), .val (.int (p5 &&& (3 : Int32))), .val (.long kk144), .second, .val (.long kk117), .second, .val (.long kk128), .second, .val (.long kk136), .second, .val (.long (kk128 - kk117)), .second, .unset, .unset, .unset, .unset, .unset, .unset, .unset, .unset, .unset, .unset, .unset] [(.long kk117), (.double (FP.l2d kk144))])) _
    refine XS.l2dS X0.here hx rfl (hb hby at_158) rfl rfl ?_
    show Steps p.tables e below (s₁.setTop (mkF m 159 #[.val (.int p1), .val (.int p2), .val (.int p3), .val (.int p4), .val (.int p5), .val (.int (p5 &&& (3 : Int32))), .val (.long kk144), .second, .val (.long kk117), .second, .val (.long kk128), .second, .val (.long kk136), .second, .val (.long (kk128 - kk117)), .second, .unset, .unset, .unset, .unset, .unset, .unset, .unset, .unset, .unset, .unset, .unset] [(.double (FP.l2d kk117)), (.double (FP.l2d kk144))])) _
    refine XS.lload X0.here hx rfl (hb hby at_159) rfl ?_
    show Steps p.tables e below (s₁.setTop (mkF m 161 #[.val (.int p1), .val (.int p2), .val (.int p3), .val (.int p4), .val (.int p5), .val (.int (p5 &&& (3 : Int32))), .val (.long kk144), .second, .val (.long kk117), .second, .val (.long kk128), .second, .val (.long kk136), .second, .val (.long (kk128 - kk117)), .second, .unset, .unset, .unset, .unset, .unset, .unset, .unset, .unset, .unset, .unset, .unset] [(.long kk128), (.double (FP.l2d kk117)), (.double (FP.l2d kk144))])) _
    refine XS.l2dS X0.here hx rfl (hb hby at_161) rfl rfl ?_
    show Steps p.tables e below (s₁.setTop (mkF m 162 #[.val (.int p1), .val (.int p2), .val (.int p3), .val (.int p4), .val (.int p5), .val (.int (p5 &&& (3 : Int32))), .val (.long kk144), .second, .val (.long kk117), .second, .val (.long kk128), .second, .val (.long kk136), .second, .val (.long (kk128 - kk117)), .second, .unset, .unset, .unset, .unset, .unset, .unset, .unset, .unset, .unset, .unset, .unset] [(.double (FP.l2d kk128)), (.double (FP.l2d kk117)), (.double (FP.l2d kk144))])) _
    refine XS.lload X0.here hx rfl (hb hby at_162) rfl ?_
    show Steps p.tables e below (s₁.setTop (mkF m 164 #[.val (.int p1), .val (.int p2), .val (.int p3), .val (.int p4), .val (.int p5), .val (.int (p5 &&& (3 : Int32))), .val (.long kk144), .second, .val (.long kk117), .second, .val (.long kk128), .second, .val (.long kk136), .second, .val (.long (kk128 - kk117)), .second, .unset, .unset, .unset, .unset, .unset, .unset, .unset, .unset, .unset, .unset, .unset] [(.long kk136), (.double (FP.l2d kk128)), (.double (FP.l2d kk117)), (.double (FP.l2d kk144))])) _
    refine XS.l2dS X0.here hx rfl (hb hby at_164) rfl rfl ?_
    show Steps p.tables e below (s₁.setTop (mkF m 165 #[.val (.int p1), .val (.int p2), .val (.int p3), .val (.int p4), .val (.int p5), .val (.int (p5 &&& (3 : Int32))), .val (.long kk144), .second, .val (.long kk117), .second, .val (.long kk128), .second, .val (.long kk136), .second, .val (.long (kk128 - kk117)), .second, .unset, .unset, .unset, .unset, .unset, .unset, .unset, .unset, .unset, .unset, .unset] [(.double (FP.l2d kk136)), (.double (FP.l2d kk128)), (.double (FP.l2d kk117)), (.double (FP.l2d kk144))])) _
    refine st6 _ ?_
    show Steps p.tables e below (T6.setTop (mkF m 168 #[.val (.int p1), .val (.int p2), .val (.int p3), .val (.int p4), .val (.int p5), .val (.int (p5 &&& (3 : Int32))), .val (.long kk144), .second, .val (.long kk117), .second, .val (.long kk128), .second, .val (.long kk136), .second, .val (.long (kk128 - kk117)), .second, .unset, .unset, .unset, .unset, .unset, .unset, .unset, .unset, .unset, .unset, .unset] [(.ref bR)])) _
    refine XS.astore X6.here hx rfl (hb hby at_168) rfl rfl (l' := #[.val (.int p1), .val (.int p2), .val (.int p3), .val (.int p4), .val (.int p5), .val (.int (p5 &&& (3 : Int32))), .val (.long kk144), .second, .val (.long kk117), .second, .val (.long kk128), .second, .val (.long kk136), .second, .val (.long (kk128 - kk117)), .second, .val (.ref bR), .unset, .unset, .unset, .unset, .unset, .unset, .unset, .unset, .unset, .unset]) rfl ?_
    show Steps p.tables e below (T6.setTop (mkF m 170 #[.val (.int p1), .val (.int p2), .val (.int p3), .val (.int p4), .val (.int p5), .val (.int (p5 &&& (3 : Int32))), .val (.long kk144), .second, .val (.long kk117), .second, .val (.long kk128), .second, .val (.long kk136), .second, .val (.long (kk128 - kk117)), .second, .val (.ref bR), .unset, .unset, .unset, .unset, .unset, .unset, .unset, .unset, .unset, .unset] [])) _
    refine XS.lload X6.here hx rfl (hb hby at_170) rfl ?_
    show Steps p.tables e below (T6.setTop (mkF m 172 #[.val (.int p1), .val (.int p2), .val (.int p3), .val (.int p4), .val (.int p5), .val (.int (p5 &&& (3 : Int32))), .val (.long kk144), .second, .val (.long kk117), .second, .val (.long kk128), .second, .val (.long kk136), .second, .val (.long (kk128 - kk117)), .second, .val (.ref bR), .unset, .unset, .unset, .unset, .unset, .unset, .unset, .unset, .unset, .unset] [(.long (kk128 - kk117))])) _
    refine XS.lconst X6.here hx rfl (hb hby at_172) ?_
    show Steps p.tables e below (T6.setTop (mkF m 173 #[.val (.int p1), .val (.int p2), .val (.int p3), .val (.int p4), .val (.int p5), .val (.int (p5 &&& (3 : Int32))), .val (.long kk144), .second, .val (.long kk117), .second, .val (.long kk128), .second, .val (.long kk136), .second, .val (.long (kk128 - kk117)), .second, .val (.ref bR), .unset, .unset, .unset, .unset, .unset, .unset, .unset, .unset, .unset, .unset] [(.long (0 : Int64)), (.long (kk128 - kk117))])) _
    refine XS.lcmp X6.here hx rfl (hb hby at_173) rfl ?_
    show Steps p.tables e below (T6.setTop (mkF m 174 #[.val (.int p1), .val (.int p2), .val (.int p3), .val (.int p4), .val (.int p5), .val (.int (p5 &&& (3 : Int32))), .val (.long kk144), .second, .val (.long kk117), .second, .val (.long kk128), .second, .val (.long kk136), .second, .val (.long (kk128 - kk117)), .second, .val (.ref bR), .unset, .unset, .unset, .unset, .unset, .unset, .unset, .unset, .unset, .unset] [(.int (lcmpW (kk128 - kk117) (0 : Int64)))])) _
    refine XS.ifNo X6.here hx rfl (hb hby at_174) rfl ((if0 _ _).trans (tlt hc174).2.2.2) ?_
    show Steps p.tables e below (T6.setTop (mkF m 177 #[.val (.int p1), .val (.int p2), .val (.int p3), .val (.int p4), .val (.int p5), .val (.int (p5 &&& (3 : Int32))), .val (.long kk144), .second, .val (.long kk117), .second, .val (.long kk128), .second, .val (.long kk136), .second, .val (.long (kk128 - kk117)), .second, .val (.ref bR), .unset, .unset, .unset, .unset, .unset, .unset, .unset, .unset, .unset, .unset] [])) _
    refine XS.lload X6.here hx rfl (hb hby at_177) rfl ?_
    show Steps p.tables e below (T6.setTop (mkF m 179 #[.val (.int p1), .val (.int p2), .val (.int p3), .val (.int p4), .val (.int p5), .val (.int (p5 &&& (3 : Int32))), .val (.long kk144), .second, .val (.long kk117), .second, .val (.long kk128), .second, .val (.long kk136), .second, .val (.long (kk128 - kk117)), .second, .val (.ref bR), .unset, .unset, .unset, .unset, .unset, .unset, .unset, .unset, .unset, .unset] [(.long kk144)])) _
    refine XS.lload X6.here hx rfl (hb hby at_179) rfl ?_
    show Steps p.tables e below (T6.setTop (mkF m 181 #[.val (.int p1), .val (.int p2), .val (.int p3), .val (.int p4), .val (.int p5), .val (.int (p5 &&& (3 : Int32))), .val (.long kk144), .second, .val (.long kk117), .second, .val (.long kk128), .second, .val (.long kk136), .second, .val (.long (kk128 - kk117)), .second, .val (.ref bR), .unset, .unset, .unset, .unset, .unset, .unset, .unset, .unset, .unset, .unset] [(.long kk136), (.long kk144)])) _
    refine XS.lload X6.here hx rfl (hb hby at_181) rfl ?_
    show Steps p.tables e below (T6.setTop (mkF m 183 #[.val (.int p1), .val (.int p2), .val (.int p3), .val (.int p4), .val (.int p5), .val (.int (p5 &&& (3 : Int32))), .val (.long kk144), .second, .val (.long kk117), .second, .val (.long kk128), .second, .val (.long kk136), .second, .val (.long (kk128 - kk117)), .second, .val (.ref bR), .unset, .unset, .unset, .unset, .unset, .unset, .unset, .unset, .unset, .unset] [(.long (kk128 - kk117)), (.long kk136), (.long kk144)])) _
    refine XS.lmul X6.here hx rfl (hb hby at_183) rfl ?_
    show Steps p.tables e below (T6.setTop (mkF m 184 #[.val (.int p1), .val (.int p2), .val (.int p3), .val (.int p4), .val (.int p5), .val (.int (p5 &&& (3 : Int32))), .val (.long kk144), .second, .val (.long kk117), .second, .val (.long kk128), .second, .val (.long kk136), .second, .val (.long (kk128 - kk117)), .second, .val (.ref bR), .unset, .unset, .unset, .unset, .unset, .unset, .unset, .unset, .unset, .unset] [(.long (kk136 * (kk128 - kk117))), (.long kk144)])) _
    refine XS.lcmp X6.here hx rfl (hb hby at_184) rfl ?_
    show Steps p.tables e below (T6.setTop (mkF m 185 #[.val (.int p1), .val (.int p2), .val (.int p3), .val (.int p4), .val (.int p5), .val (.int (p5 &&& (3 : Int32))), .val (.long kk144), .second, .val (.long kk117), .second, .val (.long kk128), .second, .val (.long kk136), .second, .val (.long (kk128 - kk117)), .second, .val (.ref bR), .unset, .unset, .unset, .unset, .unset, .unset, .unset, .unset, .unset, .unset] [(.int (lcmpW kk144 (kk136 * (kk128 - kk117))))])) _
    refine XS.ifYes X6.here hx rfl (pc0 := 185) (pc' := 245) rfl (hb hby at_185) rfl ((if0 _ _).trans (flt hc185).2.1) (by decide) (by decide) ?_
    show Steps p.tables e below (T6.setTop (mkF m 245 #[.val (.int p1), .val (.int p2), .val (.int p3), .val (.int p4), .val (.int p5), .val (.int (p5 &&& (3 : Int32))), .val (.long kk144), .second, .val (.long kk117), .second, .val (.long kk128), .second, .val (.long kk136), .second, .val (.long (kk128 - kk117)), .second, .val (.ref bR), .unset, .unset, .unset, .unset, .unset, .unset, .unset, .unset, .unset, .unset] [])) _
    refine X6.ldc2Long hx hown (mvT hZ (hw _ (List.mem_of_getElem? (i := 23) rfl))) (g := (mkF m 245 #[.val (.int p1), .val (.int p2), .val (.int p3), .val (.int p4), .val (.int p5), .val (.int (p5 &&& (3 : Int32))), .val (.long kk144), .second, .val (.long kk117), .second, .val (.long kk128), .second, .val (.long kk136), .second, .val (.long (kk128 - kk117)), .second, .val (.ref bR), .unset, .unset, .unset, .unset, .unset, .unset, .unset, .unset, .unset, .unset] [])) rfl (hb hby at_245) _ ?_
    show Steps p.tables e below (T6.setTop (mkF m 248 #[.val (.int p1), .val (.int p2), .val (.int p3), .val (.int p4), .val (.int p5), .val (.int (p5 &&& (3 : Int32))), .val (.long kk144), .second, .val (.long kk117), .second, .val (.long kk128), .second, .val (.long kk136), .second, .val (.long (kk128 - kk117)), .second, .val (.ref bR), .unset, .unset, .unset, .unset, .unset, .unset, .unset, .unset, .unset, .unset] [(.long (2 : Int64))])) _
    refine XS.lload X6.here hx rfl (hb hby at_248) rfl ?_
    show Steps p.tables e below (T6.setTop (mkF m 250 #[.val (.int p1), .val (.int p2), .val (.int p3), .val (.int p4), .val (.int p5), .val (.int (p5 &&& (3 : Int32))), .val (.long kk144), .second, .val (.long kk117), .second, .val (.long kk128), .second, .val (.long kk136), .second, .val (.long (kk128 - kk117)), .second, .val (.ref bR), .unset, .unset, .unset, .unset, .unset, .unset, .unset, .unset, .unset, .unset] [(.long kk144), (.long (2 : Int64))])) _
    refine XS.lmul X6.here hx rfl (hb hby at_250) rfl ?_
    show Steps p.tables e below (T6.setTop (mkF m 251 #[.val (.int p1), .val (.int p2), .val (.int p3), .val (.int p4), .val (.int p5), .val (.int (p5 &&& (3 : Int32))), .val (.long kk144), .second, .val (.long kk117), .second, .val (.long kk128), .second, .val (.long kk136), .second, .val (.long (kk128 - kk117)), .second, .val (.ref bR), .unset, .unset, .unset, .unset, .unset, .unset, .unset, .unset, .unset, .unset] [(.long ((2 : Int64) * kk144))])) _
    refine XS.lload X6.here hx rfl (hb hby at_251) rfl ?_
    show Steps p.tables e below (T6.setTop (mkF m 253 #[.val (.int p1), .val (.int p2), .val (.int p3), .val (.int p4), .val (.int p5), .val (.int (p5 &&& (3 : Int32))), .val (.long kk144), .second, .val (.long kk117), .second, .val (.long kk128), .second, .val (.long kk136), .second, .val (.long (kk128 - kk117)), .second, .val (.ref bR), .unset, .unset, .unset, .unset, .unset, .unset, .unset, .unset, .unset, .unset] [(.long (kk128 - kk117)), (.long ((2 : Int64) * kk144))])) _
    refine XS.lload X6.here hx rfl (hb hby at_253) rfl ?_
    show Steps p.tables e below (T6.setTop (mkF m 255 #[.val (.int p1), .val (.int p2), .val (.int p3), .val (.int p4), .val (.int p5), .val (.int (p5 &&& (3 : Int32))), .val (.long kk144), .second, .val (.long kk117), .second, .val (.long kk128), .second, .val (.long kk136), .second, .val (.long (kk128 - kk117)), .second, .val (.ref bR), .unset, .unset, .unset, .unset, .unset, .unset, .unset, .unset, .unset, .unset] [(.long kk136), (.long (kk128 - kk117)), (.long ((2 : Int64) * kk144))])) _
    refine XS.lmul X6.here hx rfl (hb hby at_255) rfl ?_
    show Steps p.tables e below (T6.setTop (mkF m 256 #[.val (.int p1), .val (.int p2), .val (.int p3), .val (.int p4), .val (.int p5), .val (.int (p5 &&& (3 : Int32))), .val (.long kk144), .second, .val (.long kk117), .second, .val (.long kk128), .second, .val (.long kk136), .second, .val (.long (kk128 - kk117)), .second, .val (.ref bR), .unset, .unset, .unset, .unset, .unset, .unset, .unset, .unset, .unset, .unset] [(.long ((kk128 - kk117) * kk136)), (.long ((2 : Int64) * kk144))])) _
    refine XS.lsub X6.here hx rfl (hb hby at_256) rfl ?_
    show Steps p.tables e below (T6.setTop (mkF m 257 #[.val (.int p1), .val (.int p2), .val (.int p3), .val (.int p4), .val (.int p5), .val (.int (p5 &&& (3 : Int32))), .val (.long kk144), .second, .val (.long kk117), .second, .val (.long kk128), .second, .val (.long kk136), .second, .val (.long (kk128 - kk117)), .second, .val (.ref bR), .unset, .unset, .unset, .unset, .unset, .unset, .unset, .unset, .unset, .unset] [(.long (((2 : Int64) * kk144) - ((kk128 - kk117) * kk136)))])) _
    refine X6.ldc2Long hx hown (mvT hZ (hw _ (List.mem_of_getElem? (i := 23) rfl))) (g := (mkF m 257 #[.val (.int p1), .val (.int p2), .val (.int p3), .val (.int p4), .val (.int p5), .val (.int (p5 &&& (3 : Int32))), .val (.long kk144), .second, .val (.long kk117), .second, .val (.long kk128), .second, .val (.long kk136), .second, .val (.long (kk128 - kk117)), .second, .val (.ref bR), .unset, .unset, .unset, .unset, .unset, .unset, .unset, .unset, .unset, .unset] [(.long (((2 : Int64) * kk144) - ((kk128 - kk117) * kk136)))])) rfl (hb hby at_257) _ ?_
    show Steps p.tables e below (T6.setTop (mkF m 260 #[.val (.int p1), .val (.int p2), .val (.int p3), .val (.int p4), .val (.int p5), .val (.int (p5 &&& (3 : Int32))), .val (.long kk144), .second, .val (.long kk117), .second, .val (.long kk128), .second, .val (.long kk136), .second, .val (.long (kk128 - kk117)), .second, .val (.ref bR), .unset, .unset, .unset, .unset, .unset, .unset, .unset, .unset, .unset, .unset] [(.long (2 : Int64)), (.long (((2 : Int64) * kk144) - ((kk128 - kk117) * kk136)))])) _
    refine XS.ladd X6.here hx rfl (hb hby at_260) rfl ?_
    show Steps p.tables e below (T6.setTop (mkF m 261 #[.val (.int p1), .val (.int p2), .val (.int p3), .val (.int p4), .val (.int p5), .val (.int (p5 &&& (3 : Int32))), .val (.long kk144), .second, .val (.long kk117), .second, .val (.long kk128), .second, .val (.long kk136), .second, .val (.long (kk128 - kk117)), .second, .val (.ref bR), .unset, .unset, .unset, .unset, .unset, .unset, .unset, .unset, .unset, .unset] [(.long ((((2 : Int64) * kk144) - ((kk128 - kk117) * kk136)) + (2 : Int64)))])) _
    refine XS.lstore X6.here hx rfl (hb hby at_261) rfl (l' := #[.val (.int p1), .val (.int p2), .val (.int p3), .val (.int p4), .val (.int p5), .val (.int (p5 &&& (3 : Int32))), .val (.long kk144), .second, .val (.long kk117), .second, .val (.long kk128), .second, .val (.long kk136), .second, .val (.long (kk128 - kk117)), .second, .val (.ref bR), .val (.long ((((2 : Int64) * kk144) - ((kk128 - kk117) * kk136)) + (2 : Int64))), .second, .unset, .unset, .unset, .unset, .unset, .unset, .unset, .unset]) rfl ?_
    show Steps p.tables e below (T6.setTop (mkF m 263 #[.val (.int p1), .val (.int p2), .val (.int p3), .val (.int p4), .val (.int p5), .val (.int (p5 &&& (3 : Int32))), .val (.long kk144), .second, .val (.long kk117), .second, .val (.long kk128), .second, .val (.long kk136), .second, .val (.long (kk128 - kk117)), .second, .val (.ref bR), .val (.long ((((2 : Int64) * kk144) - ((kk128 - kk117) * kk136)) + (2 : Int64))), .second, .unset, .unset, .unset, .unset, .unset, .unset, .unset, .unset] [])) _
    rw [hk261]
    show Steps p.tables e below (T6.setTop (mkF m 263 #[.val (.int p1), .val (.int p2), .val (.int p3), .val (.int p4), .val (.int p5), .val (.int (p5 &&& (3 : Int32))), .val (.long kk144), .second, .val (.long kk117), .second, .val (.long kk128), .second, .val (.long kk136), .second, .val (.long (kk128 - kk117)), .second, .val (.ref bR), .val (.long kk261), .second, .unset, .unset, .unset, .unset, .unset, .unset, .unset, .unset] [])) _
    refine X6.ldc2Long hx hown (mvT hZ (hw _ (List.mem_of_getElem? (i := 23) rfl))) (g := (mkF m 263 #[.val (.int p1), .val (.int p2), .val (.int p3), .val (.int p4), .val (.int p5), .val (.int (p5 &&& (3 : Int32))), .val (.long kk144), .second, .val (.long kk117), .second, .val (.long kk128), .second, .val (.long kk136), .second, .val (.long (kk128 - kk117)), .second, .val (.ref bR), .val (.long kk261), .second, .unset, .unset, .unset, .unset, .unset, .unset, .unset, .unset] [])) rfl (hb hby at_263) _ ?_
    show Steps p.tables e below (T6.setTop (mkF m 266 #[.val (.int p1), .val (.int p2), .val (.int p3), .val (.int p4), .val (.int p5), .val (.int (p5 &&& (3 : Int32))), .val (.long kk144), .second, .val (.long kk117), .second, .val (.long kk128), .second, .val (.long kk136), .second, .val (.long (kk128 - kk117)), .second, .val (.ref bR), .val (.long kk261), .second, .unset, .unset, .unset, .unset, .unset, .unset, .unset, .unset] [(.long (2 : Int64))])) _
    refine XS.lload X6.here hx rfl (hb hby at_266) rfl ?_
    show Steps p.tables e below (T6.setTop (mkF m 268 #[.val (.int p1), .val (.int p2), .val (.int p3), .val (.int p4), .val (.int p5), .val (.int (p5 &&& (3 : Int32))), .val (.long kk144), .second, .val (.long kk117), .second, .val (.long kk128), .second, .val (.long kk136), .second, .val (.long (kk128 - kk117)), .second, .val (.ref bR), .val (.long kk261), .second, .unset, .unset, .unset, .unset, .unset, .unset, .unset, .unset] [(.long kk128), (.long (2 : Int64))])) _
    refine XS.lmul X6.here hx rfl (hb hby at_268) rfl ?_
    show Steps p.tables e below (T6.setTop (mkF m 269 #[.val (.int p1), .val (.int p2), .val (.int p3), .val (.int p4), .val (.int p5), .val (.int (p5 &&& (3 : Int32))), .val (.long kk144), .second, .val (.long kk117), .second, .val (.long kk128), .second, .val (.long kk136), .second, .val (.long (kk128 - kk117)), .second, .val (.ref bR), .val (.long kk261), .second, .unset, .unset, .unset, .unset, .unset, .unset, .unset, .unset] [(.long ((2 : Int64) * kk128))])) _
    refine XS.lstore X6.here hx rfl (hb hby at_269) rfl (l' := #[.val (.int p1), .val (.int p2), .val (.int p3), .val (.int p4), .val (.int p5), .val (.int (p5 &&& (3 : Int32))), .val (.long kk144), .second, .val (.long kk117), .second, .val (.long kk128), .second, .val (.long kk136), .second, .val (.long (kk128 - kk117)), .second, .val (.ref bR), .val (.long kk261), .second, .val (.long ((2 : Int64) * kk128)), .second, .unset, .unset, .unset, .unset, .unset, .unset]) rfl ?_
    show Steps p.tables e below (T6.setTop (mkF m 271 #[.val (.int p1), .val (.int p2), .val (.int p3), .val (.int p4), .val (.int p5), .val (.int (p5 &&& (3 : Int32))), .val (.long kk144), .second, .val (.long kk117), .second, .val (.long kk128), .second, .val (.long kk136), .second, .val (.long (kk128 - kk117)), .second, .val (.ref bR), .val (.long kk261), .second, .val (.long ((2 : Int64) * kk128)), .second, .unset, .unset, .unset, .unset, .unset, .unset] [])) _
    refine XS.lload X6.here hx rfl (hb hby at_271) rfl ?_
    show Steps p.tables e below (T6.setTop (mkF m 273 #[.val (.int p1), .val (.int p2), .val (.int p3), .val (.int p4), .val (.int p5), .val (.int (p5 &&& (3 : Int32))), .val (.long kk144), .second, .val (.long kk117), .second, .val (.long kk128), .second, .val (.long kk136), .second, .val (.long (kk128 - kk117)), .second, .val (.ref bR), .val (.long kk261), .second, .val (.long ((2 : Int64) * kk128)), .second, .unset, .unset, .unset, .unset, .unset, .unset] [(.long kk136)])) _
    refine XS.lneg X6.here hx rfl (hb hby at_273) rfl ?_
    show Steps p.tables e below (T6.setTop (mkF m 274 #[.val (.int p1), .val (.int p2), .val (.int p3), .val (.int p4), .val (.int p5), .val (.int (p5 &&& (3 : Int32))), .val (.long kk144), .second, .val (.long kk117), .second, .val (.long kk128), .second, .val (.long kk136), .second, .val (.long (kk128 - kk117)), .second, .val (.ref bR), .val (.long kk261), .second, .val (.long ((2 : Int64) * kk128)), .second, .unset, .unset, .unset, .unset, .unset, .unset] [(.long (-kk136))])) _
    refine XS.l2dS X6.here hx rfl (hb hby at_274) rfl rfl ?_
    show Steps p.tables e below (T6.setTop (mkF m 275 #[.val (.int p1), .val (.int p2), .val (.int p3), .val (.int p4), .val (.int p5), .val (.int (p5 &&& (3 : Int32))), .val (.long kk144), .second, .val (.long kk117), .second, .val (.long kk128), .second, .val (.long kk136), .second, .val (.long (kk128 - kk117)), .second, .val (.ref bR), .val (.long kk261), .second, .val (.long ((2 : Int64) * kk128)), .second, .unset, .unset, .unset, .unset, .unset, .unset] [(.double (FP.l2d (-kk136)))])) _
    refine X6.ldc2DoubleC hx hown (mvT hZ (hw _ (List.mem_of_getElem? (i := 24) rfl))) (g := (mkF m 275 #[.val (.int p1), .val (.int p2), .val (.int p3), .val (.int p4), .val (.int p5), .val (.int (p5 &&& (3 : Int32))), .val (.long kk144), .second, .val (.long kk117), .second, .val (.long kk128), .second, .val (.long kk136), .second, .val (.long (kk128 - kk117)), .second, .val (.ref bR), .val (.long kk261), .second, .val (.long ((2 : Int64) * kk128)), .second, .unset, .unset, .unset, .unset, .unset, .unset] [(.double (FP.l2d (-kk136)))])) rfl (hb hby at_275) _ ?_
    show Steps p.tables e below (T6.setTop (mkF m 278 #[.val (.int p1), .val (.int p2), .val (.int p3), .val (.int p4), .val (.int p5), .val (.int (p5 &&& (3 : Int32))), .val (.long kk144), .second, .val (.long kk117), .second, .val (.long kk128), .second, .val (.long kk136), .second, .val (.long (kk128 - kk117)), .second, .val (.ref bR), .val (.long kk261), .second, .val (.long ((2 : Int64) * kk128)), .second, .unset, .unset, .unset, .unset, .unset, .unset] [(.double (4611686018427387904 : UInt64)), (.double (FP.l2d (-kk136)))])) _
    refine XS.ddivS X6.here hx rfl (hb hby at_278) rfl hn278 hv278 ?_
    show Steps p.tables e below (T6.setTop (mkF m 279 #[.val (.int p1), .val (.int p2), .val (.int p3), .val (.int p4), .val (.int p5), .val (.int (p5 &&& (3 : Int32))), .val (.long kk144), .second, .val (.long kk117), .second, .val (.long kk128), .second, .val (.long kk136), .second, .val (.long (kk128 - kk117)), .second, .val (.ref bR), .val (.long kk261), .second, .val (.long ((2 : Int64) * kk128)), .second, .unset, .unset, .unset, .unset, .unset, .unset] [(.double r278)])) _
    refine XS.dstore X6.here hx rfl (hb hby at_279) rfl (l' := #[.val (.int p1), .val (.int p2), .val (.int p3), .val (.int p4), .val (.int p5), .val (.int (p5 &&& (3 : Int32))), .val (.long kk144), .second, .val (.long kk117), .second, .val (.long kk128), .second, .val (.long kk136), .second, .val (.long (kk128 - kk117)), .second, .val (.ref bR), .val (.long kk261), .second, .val (.long ((2 : Int64) * kk128)), .second, .val (.double r278), .second, .unset, .unset, .unset, .unset]) rfl ?_
    show Steps p.tables e below (T6.setTop (mkF m 281 #[.val (.int p1), .val (.int p2), .val (.int p3), .val (.int p4), .val (.int p5), .val (.int (p5 &&& (3 : Int32))), .val (.long kk144), .second, .val (.long kk117), .second, .val (.long kk128), .second, .val (.long kk136), .second, .val (.long (kk128 - kk117)), .second, .val (.ref bR), .val (.long kk261), .second, .val (.long ((2 : Int64) * kk128)), .second, .val (.double r278), .second, .unset, .unset, .unset, .unset] [])) _
    refine XS.lload X6.here hx rfl (hb hby at_281) rfl ?_
    show Steps p.tables e below (T6.setTop (mkF m 283 #[.val (.int p1), .val (.int p2), .val (.int p3), .val (.int p4), .val (.int p5), .val (.int (p5 &&& (3 : Int32))), .val (.long kk144), .second, .val (.long kk117), .second, .val (.long kk128), .second, .val (.long kk136), .second, .val (.long (kk128 - kk117)), .second, .val (.ref bR), .val (.long kk261), .second, .val (.long ((2 : Int64) * kk128)), .second, .val (.double r278), .second, .unset, .unset, .unset, .unset] [(.long kk261)])) _
    refine XS.l2dS X6.here hx rfl (hb hby at_283) rfl rfl ?_
    show Steps p.tables e below (T6.setTop (mkF m 284 #[.val (.int p1), .val (.int p2), .val (.int p3), .val (.int p4), .val (.int p5), .val (.int (p5 &&& (3 : Int32))), .val (.long kk144), .second, .val (.long kk117), .second, .val (.long kk128), .second, .val (.long kk136), .second, .val (.long (kk128 - kk117)), .second, .val (.ref bR), .val (.long kk261), .second, .val (.long ((2 : Int64) * kk128)), .second, .val (.double r278), .second, .unset, .unset, .unset, .unset] [(.double (FP.l2d kk261))])) _
    refine XS.lload X6.here hx rfl (hb hby at_284) rfl ?_
    show Steps p.tables e below (T6.setTop (mkF m 286 #[.val (.int p1), .val (.int p2), .val (.int p3), .val (.int p4), .val (.int p5), .val (.int (p5 &&& (3 : Int32))), .val (.long kk144), .second, .val (.long kk117), .second, .val (.long kk128), .second, .val (.long kk136), .second, .val (.long (kk128 - kk117)), .second, .val (.ref bR), .val (.long kk261), .second, .val (.long ((2 : Int64) * kk128)), .second, .val (.double r278), .second, .unset, .unset, .unset, .unset] [(.long ((2 : Int64) * kk128)), (.double (FP.l2d kk261))])) _
    refine XS.l2dS X6.here hx rfl (hb hby at_286) rfl rfl ?_
    show Steps p.tables e below (T6.setTop (mkF m 287 #[.val (.int p1), .val (.int p2), .val (.int p3), .val (.int p4), .val (.int p5), .val (.int (p5 &&& (3 : Int32))), .val (.long kk144), .second, .val (.long kk117), .second, .val (.long kk128), .second, .val (.long kk136), .second, .val (.long (kk128 - kk117)), .second, .val (.ref bR), .val (.long kk261), .second, .val (.long ((2 : Int64) * kk128)), .second, .val (.double r278), .second, .unset, .unset, .unset, .unset] [(.double (FP.l2d ((2 : Int64) * kk128))), (.double (FP.l2d kk261))])) _
    refine XS.ddivS X6.here hx rfl (hb hby at_287) rfl hn287 hv287 ?_
    show Steps p.tables e below (T6.setTop (mkF m 288 #[.val (.int p1), .val (.int p2), .val (.int p3), .val (.int p4), .val (.int p5), .val (.int (p5 &&& (3 : Int32))), .val (.long kk144), .second, .val (.long kk117), .second, .val (.long kk128), .second, .val (.long kk136), .second, .val (.long (kk128 - kk117)), .second, .val (.ref bR), .val (.long kk261), .second, .val (.long ((2 : Int64) * kk128)), .second, .val (.double r278), .second, .unset, .unset, .unset, .unset] [(.double r287)])) _
    refine XS.dstore X6.here hx rfl (hb hby at_288) rfl (l' := #[.val (.int p1), .val (.int p2), .val (.int p3), .val (.int p4), .val (.int p5), .val (.int (p5 &&& (3 : Int32))), .val (.long kk144), .second, .val (.long kk117), .second, .val (.long kk128), .second, .val (.long kk136), .second, .val (.long (kk128 - kk117)), .second, .val (.ref bR), .val (.long kk261), .second, .val (.long ((2 : Int64) * kk128)), .second, .val (.double r278), .second, .val (.double r287), .second, .unset, .unset]) rfl ?_
    show Steps p.tables e below (T6.setTop (mkF m 290 #[.val (.int p1), .val (.int p2), .val (.int p3), .val (.int p4), .val (.int p5), .val (.int (p5 &&& (3 : Int32))), .val (.long kk144), .second, .val (.long kk117), .second, .val (.long kk128), .second, .val (.long kk136), .second, .val (.long (kk128 - kk117)), .second, .val (.ref bR), .val (.long kk261), .second, .val (.long ((2 : Int64) * kk128)), .second, .val (.double r278), .second, .val (.double r287), .second, .unset, .unset] [])) _
    refine XS.dload X6.here hx rfl (hb hby at_290) rfl ?_
    show Steps p.tables e below (T6.setTop (mkF m 292 #[.val (.int p1), .val (.int p2), .val (.int p3), .val (.int p4), .val (.int p5), .val (.int (p5 &&& (3 : Int32))), .val (.long kk144), .second, .val (.long kk117), .second, .val (.long kk128), .second, .val (.long kk136), .second, .val (.long (kk128 - kk117)), .second, .val (.ref bR), .val (.long kk261), .second, .val (.long ((2 : Int64) * kk128)), .second, .val (.double r278), .second, .val (.double r287), .second, .unset, .unset] [(.double r278)])) _
    refine XS.dload X6.here hx rfl (hb hby at_292) rfl ?_
    show Steps p.tables e below (T6.setTop (mkF m 294 #[.val (.int p1), .val (.int p2), .val (.int p3), .val (.int p4), .val (.int p5), .val (.int (p5 &&& (3 : Int32))), .val (.long kk144), .second, .val (.long kk117), .second, .val (.long kk128), .second, .val (.long kk136), .second, .val (.long (kk128 - kk117)), .second, .val (.ref bR), .val (.long kk261), .second, .val (.long ((2 : Int64) * kk128)), .second, .val (.double r278), .second, .val (.double r287), .second, .unset, .unset] [(.double r287), (.double r278)])) _
    refine XS.dsubS X6.here hx rfl (hb hby at_294) rfl hn294 hv294 ?_
    show Steps p.tables e below (T6.setTop (mkF m 295 #[.val (.int p1), .val (.int p2), .val (.int p3), .val (.int p4), .val (.int p5), .val (.int (p5 &&& (3 : Int32))), .val (.long kk144), .second, .val (.long kk117), .second, .val (.long kk128), .second, .val (.long kk136), .second, .val (.long (kk128 - kk117)), .second, .val (.ref bR), .val (.long kk261), .second, .val (.long ((2 : Int64) * kk128)), .second, .val (.double r278), .second, .val (.double r287), .second, .unset, .unset] [(.double r294)])) _
    refine XS.lload X6.here hx rfl (hb hby at_295) rfl ?_
    show Steps p.tables e below (T6.setTop (mkF m 297 #[.val (.int p1), .val (.int p2), .val (.int p3), .val (.int p4), .val (.int p5), .val (.int (p5 &&& (3 : Int32))), .val (.long kk144), .second, .val (.long kk117), .second, .val (.long kk128), .second, .val (.long kk136), .second, .val (.long (kk128 - kk117)), .second, .val (.ref bR), .val (.long kk261), .second, .val (.long ((2 : Int64) * kk128)), .second, .val (.double r278), .second, .val (.double r287), .second, .unset, .unset] [(.long kk128), (.double r294)])) _
    refine XS.l2dS X6.here hx rfl (hb hby at_297) rfl rfl ?_
    show Steps p.tables e below (T6.setTop (mkF m 298 #[.val (.int p1), .val (.int p2), .val (.int p3), .val (.int p4), .val (.int p5), .val (.int (p5 &&& (3 : Int32))), .val (.long kk144), .second, .val (.long kk117), .second, .val (.long kk128), .second, .val (.long kk136), .second, .val (.long (kk128 - kk117)), .second, .val (.ref bR), .val (.long kk261), .second, .val (.long ((2 : Int64) * kk128)), .second, .val (.double r278), .second, .val (.double r287), .second, .unset, .unset] [(.double (FP.l2d kk128)), (.double r294)])) _
    refine XS.ddivS X6.here hx rfl (hb hby at_298) rfl hn298 hv298 ?_
    show Steps p.tables e below (T6.setTop (mkF m 299 #[.val (.int p1), .val (.int p2), .val (.int p3), .val (.int p4), .val (.int p5), .val (.int (p5 &&& (3 : Int32))), .val (.long kk144), .second, .val (.long kk117), .second, .val (.long kk128), .second, .val (.long kk136), .second, .val (.long (kk128 - kk117)), .second, .val (.ref bR), .val (.long kk261), .second, .val (.long ((2 : Int64) * kk128)), .second, .val (.double r278), .second, .val (.double r287), .second, .unset, .unset] [(.double r298)])) _
    refine XS.dstore X6.here hx rfl (hb hby at_299) rfl (l' := #[.val (.int p1), .val (.int p2), .val (.int p3), .val (.int p4), .val (.int p5), .val (.int (p5 &&& (3 : Int32))), .val (.long kk144), .second, .val (.long kk117), .second, .val (.long kk128), .second, .val (.long kk136), .second, .val (.long (kk128 - kk117)), .second, .val (.ref bR), .val (.long kk261), .second, .val (.long ((2 : Int64) * kk128)), .second, .val (.double r278), .second, .val (.double r287), .second, .val (.double r298), .second]) rfl ?_
    show Steps p.tables e below (T6.setTop (mkF m 301 #[.val (.int p1), .val (.int p2), .val (.int p3), .val (.int p4), .val (.int p5), .val (.int (p5 &&& (3 : Int32))), .val (.long kk144), .second, .val (.long kk117), .second, .val (.long kk128), .second, .val (.long kk136), .second, .val (.long (kk128 - kk117)), .second, .val (.ref bR), .val (.long kk261), .second, .val (.long ((2 : Int64) * kk128)), .second, .val (.double r278), .second, .val (.double r287), .second, .val (.double r298), .second] [])) _
    refine XS.aload X6.here hx rfl (hb hby at_301) rfl rfl ?_
    show Steps p.tables e below (T6.setTop (mkF m 303 #[.val (.int p1), .val (.int p2), .val (.int p3), .val (.int p4), .val (.int p5), .val (.int (p5 &&& (3 : Int32))), .val (.long kk144), .second, .val (.long kk117), .second, .val (.long kk128), .second, .val (.long kk136), .second, .val (.long (kk128 - kk117)), .second, .val (.ref bR), .val (.long kk261), .second, .val (.long ((2 : Int64) * kk128)), .second, .val (.double r278), .second, .val (.double r287), .second, .val (.double r298), .second] [(.ref bR)])) _
    refine st7.trans ?_
    show Steps p.tables e below (T7.setTop (mkF m 306 #[.val (.int p1), .val (.int p2), .val (.int p3), .val (.int p4), .val (.int p5), .val (.int (p5 &&& (3 : Int32))), .val (.long kk144), .second, .val (.long kk117), .second, .val (.long kk128), .second, .val (.long kk136), .second, .val (.long (kk128 - kk117)), .second, .val (.ref bR), .val (.long kk261), .second, .val (.long ((2 : Int64) * kk128)), .second, .val (.double r278), .second, .val (.double r287), .second, .val (.double r298), .second] [(.double tm)])) _
    refine XS.dload X7.here hx rfl (hb hby at_306) rfl ?_
    show Steps p.tables e below (T7.setTop (mkF m 308 #[.val (.int p1), .val (.int p2), .val (.int p3), .val (.int p4), .val (.int p5), .val (.int (p5 &&& (3 : Int32))), .val (.long kk144), .second, .val (.long kk117), .second, .val (.long kk128), .second, .val (.long kk136), .second, .val (.long (kk128 - kk117)), .second, .val (.ref bR), .val (.long kk261), .second, .val (.long ((2 : Int64) * kk128)), .second, .val (.double r278), .second, .val (.double r287), .second, .val (.double r298), .second] [(.double r287), (.double tm)])) _
    refine XS.dcmpS X7.here hx rfl (hb hby at_308) rfl rfl ?_
    show Steps p.tables e below (T7.setTop (mkF m 309 #[.val (.int p1), .val (.int p2), .val (.int p3), .val (.int p4), .val (.int p5), .val (.int (p5 &&& (3 : Int32))), .val (.long kk144), .second, .val (.long kk117), .second, .val (.long kk128), .second, .val (.long kk136), .second, .val (.long (kk128 - kk117)), .second, .val (.ref bR), .val (.long kk261), .second, .val (.long ((2 : Int64) * kk128)), .second, .val (.double r278), .second, .val (.double r287), .second, .val (.double r298), .second] [(.int (cmpValue (FP.dcmp tm r287) .l))])) _
    refine XS.ifNo X7.here hx rfl (hb hby at_309) rfl ((if0 _ _).trans (teq hq1).2) ?_
    show Steps p.tables e below (T7.setTop (mkF m 312 #[.val (.int p1), .val (.int p2), .val (.int p3), .val (.int p4), .val (.int p5), .val (.int (p5 &&& (3 : Int32))), .val (.long kk144), .second, .val (.long kk117), .second, .val (.long kk128), .second, .val (.long kk136), .second, .val (.long (kk128 - kk117)), .second, .val (.ref bR), .val (.long kk261), .second, .val (.long ((2 : Int64) * kk128)), .second, .val (.double r278), .second, .val (.double r287), .second, .val (.double r298), .second] [])) _
    refine XS.aload X7.here hx rfl (hb hby at_312) rfl rfl ?_
    show Steps p.tables e below (T7.setTop (mkF m 314 #[.val (.int p1), .val (.int p2), .val (.int p3), .val (.int p4), .val (.int p5), .val (.int (p5 &&& (3 : Int32))), .val (.long kk144), .second, .val (.long kk117), .second, .val (.long kk128), .second, .val (.long kk136), .second, .val (.long (kk128 - kk117)), .second, .val (.ref bR), .val (.long kk261), .second, .val (.long ((2 : Int64) * kk128)), .second, .val (.double r278), .second, .val (.double r287), .second, .val (.double r298), .second] [(.ref bR)])) _
    refine st8.trans ?_
    show Steps p.tables e below (T8.setTop (mkF m 317 #[.val (.int p1), .val (.int p2), .val (.int p3), .val (.int p4), .val (.int p5), .val (.int (p5 &&& (3 : Int32))), .val (.long kk144), .second, .val (.long kk117), .second, .val (.long kk128), .second, .val (.long kk136), .second, .val (.long (kk128 - kk117)), .second, .val (.ref bR), .val (.long kk261), .second, .val (.long ((2 : Int64) * kk128)), .second, .val (.double r278), .second, .val (.double r287), .second, .val (.double r298), .second] [(.double sl)])) _
    refine XS.dload X8.here hx rfl (hb hby at_317) rfl ?_
    show Steps p.tables e below (T8.setTop (mkF m 319 #[.val (.int p1), .val (.int p2), .val (.int p3), .val (.int p4), .val (.int p5), .val (.int (p5 &&& (3 : Int32))), .val (.long kk144), .second, .val (.long kk117), .second, .val (.long kk128), .second, .val (.long kk136), .second, .val (.long (kk128 - kk117)), .second, .val (.ref bR), .val (.long kk261), .second, .val (.long ((2 : Int64) * kk128)), .second, .val (.double r278), .second, .val (.double r287), .second, .val (.double r298), .second] [(.double r298), (.double sl)])) _
    refine XS.dcmpS X8.here hx rfl (hb hby at_319) rfl rfl ?_
    show Steps p.tables e below (T8.setTop (mkF m 320 #[.val (.int p1), .val (.int p2), .val (.int p3), .val (.int p4), .val (.int p5), .val (.int (p5 &&& (3 : Int32))), .val (.long kk144), .second, .val (.long kk117), .second, .val (.long kk128), .second, .val (.long kk136), .second, .val (.long (kk128 - kk117)), .second, .val (.ref bR), .val (.long kk261), .second, .val (.long ((2 : Int64) * kk128)), .second, .val (.double r278), .second, .val (.double r287), .second, .val (.double r298), .second] [(.int (cmpValue (FP.dcmp sl r298) .l))])) _
    refine XS.ifNo X8.here hx rfl (hb hby at_320) rfl ((if0 _ _).trans (teq hq2).2) ?_
    show Steps p.tables e below (T8.setTop (mkF m 323 #[.val (.int p1), .val (.int p2), .val (.int p3), .val (.int p4), .val (.int p5), .val (.int (p5 &&& (3 : Int32))), .val (.long kk144), .second, .val (.long kk117), .second, .val (.long kk128), .second, .val (.long kk136), .second, .val (.long (kk128 - kk117)), .second, .val (.ref bR), .val (.long kk261), .second, .val (.long ((2 : Int64) * kk128)), .second, .val (.double r278), .second, .val (.double r287), .second, .val (.double r298), .second] [])) _
    refine XS.iconst X8.here hx rfl (hb hby at_323) ?_
    show Steps p.tables e below (T8.setTop (mkF m 324 #[.val (.int p1), .val (.int p2), .val (.int p3), .val (.int p4), .val (.int p5), .val (.int (p5 &&& (3 : Int32))), .val (.long kk144), .second, .val (.long kk117), .second, .val (.long kk128), .second, .val (.long kk136), .second, .val (.long (kk128 - kk117)), .second, .val (.ref bR), .val (.long kk261), .second, .val (.long ((2 : Int64) * kk128)), .second, .val (.double r278), .second, .val (.double r287), .second, .val (.double r298), .second] [(.int (1 : Int32))])) _
    refine XS.goto X8.here hx rfl (pc0 := 324) (pc' := 328) rfl (hb hby at_324) (by decide) (by decide) ?_
    show Steps p.tables e below (T8.setTop (mkF m 328 #[.val (.int p1), .val (.int p2), .val (.int p3), .val (.int p4), .val (.int p5), .val (.int (p5 &&& (3 : Int32))), .val (.long kk144), .second, .val (.long kk117), .second, .val (.long kk128), .second, .val (.long kk136), .second, .val (.long (kk128 - kk117)), .second, .val (.ref bR), .val (.long kk261), .second, .val (.long ((2 : Int64) * kk128)), .second, .val (.double r278), .second, .val (.double r287), .second, .val (.double r298), .second] [(.int (1 : Int32))])) _
    exact retN X8 hx (t := .boolean) Bd.returns (by simp) (hb hby at_328) hr
  · show QL n0 _ T8.heap _
    exact ⟨rfl, N8⟩
set_option maxRecDepth 65536 in
set_option maxHeartbeats 40000000 in
theorem rm0_ttffff (l : Launch) (Z : State) (a0 : Array Value) (hw : ∀ d ∈ tables_1, d.before a0 Z = true) (ws : List Jvm.Cond) (p1 : Int32) (p2 : Int32) (p3 : Int32) (p4 : Int32) (p5 : Int32) (kk117 : Int64) (kk128 : Int64) (kk136 : Int64) (kk144 : Int64) (kk203 : Int64) (kk217 : Int64) (r239 : UInt64) (r287 : UInt64) (r294 : UInt64) (r298 : UInt64) (tm : UInt64) (sl : UInt64) (h0 : Heap) (n0 : Nat) (Z0 : n0 ≤ h0.size) (hc8 : ¬ ((p5 &&& (3 : Int32)) = (0 : Int32))) (hc56 : ¬ ((p5 &&& (3 : Int32)) = (2 : Int32))) (hk117 : ((p2 &&& (1023 : Int32)).toInt64) = kk117) (hk128 : (kk117 + ((1 : Int64) <<< ((p3 &&& (7 : Int32)) &&& 0x3f).toInt64)) = kk128) (hk136 : ((1 : Int64) <<< ((p4 &&& (7 : Int32)) &&& 0x3f).toInt64) = kk136) (hk144 : ((p1 &&& (32767 : Int32)).toInt64) = kk144) (hc174 : (0 : Int32) < (lcmpW (kk128 - kk117) (0 : Int64))) (hc185 : (lcmpW kk144 (kk136 * (kk128 - kk117))) < (0 : Int32)) (hk203 : ((kk144 * kk144) + (((2 : Int64) * kk136) * (kk128 - kk117))) = kk203) (hk217 : ((((2 : Int64) * kk136) * (kk128 - kk117)) * kk128) = kk217) (hv239 : (FP.ddiv (FP.l2d (-(kk144 * kk144))) (FP.l2d ((((2 : Int64) * kk136) * (kk128 - kk117)) * (kk128 - kk117)))) = r239) (hn239 : Jvm.Free.Fl.NoNaN64 (FP.ddiv (FP.l2d (-(kk144 * kk144))) (FP.l2d ((((2 : Int64) * kk136) * (kk128 - kk117)) * (kk128 - kk117))))) (hv287 : (FP.ddiv (FP.l2d kk203) (FP.l2d kk217)) = r287) (hn287 : Jvm.Free.Fl.NoNaN64 (FP.ddiv (FP.l2d kk203) (FP.l2d kk217))) (hv294 : (FP.dsub r239 r287) = r294) (hn294 : Jvm.Free.Fl.NoNaN64 (FP.dsub r239 r287)) (hv298 : (FP.ddiv r294 (FP.l2d kk128)) = r298) (hn298 : Jvm.Free.Fl.NoNaN64 (FP.ddiv r294 (FP.l2d kk128))) (hq1 : (cmpValue (FP.dcmp tm r287) .l) = (0 : Int32)) (hq2 : (cmpValue (FP.dcmp sl r298) .l) = (0 : Int32)) (hC : MetFree l (⟨"dev/tidemark/usage/WindowQueue", "approximateResponse", "(DDDD)Ldev/tidemark/usage/WindowQueue$Response;"⟩ : MethodName) (head1 (Jvm.Cond.code (⟨"dev/tidemark/usage/WindowQueue", "approximateResponse", "(DDDD)Ldev/tidemark/usage/WindowQueue$Response;"⟩ : MethodName) prog_66_method_7_code 16 (some (.object "dev/tidemark/usage/WindowQueue$Response")) :: []) ({ frames := 3, cells := 1, slots := 2, locals := 41 } : Room)) (fun a U => a = #[(.double (FP.l2d kk144)), (.double (FP.l2d kk117)), (.double (FP.l2d kk128)), (.double (FP.l2d kk136))] ∧ Z.Warmed39 U.vm ∧ U.heap = h0) (fun _ _ _ _ _ => True) (fun _ U o U' => ∃ v L, o = .returned v ∧ Q1 Z tm sl h0 n0 v U'.heap L ∧ FrameEnd U o U' L ({ frames := 3, cells := 1, slots := 2, locals := 41 } : Room).cells ({ frames := 3, cells := 1, slots := 2, locals := 41 } : Room).slots)) :
    MetFree l x (head1 (Jvm.Cond.code x code maxLocals ret :: ws) room_1) (fun a U => a = #[(.int p1), (.int p2), (.int p3), (.int p4), (.int p5)] ∧ Z.Warmed39 U.vm ∧ U.heap = h0) (fun _ _ _ _ _ => True) (fun _ U o U' => ∃ v L, o = .returned v ∧ QL n0 v U'.heap L ∧ FrameEnd U o U' L room_1.cells room_1.slots) := by
  refine MetFree.of_bodySF (plainFor_of_name pn_0) hisR ?_
  intro p e s m args below meth c s₁ Bd hml0 hP hK
  obtain ⟨rfl, hZ, hh⟩ := hP
  have hx := Bd.exec
  have hby := Bd.bytes
  have hml : c.maxLocals = 27 := hml0
  have hown : s.vm.findClass "dev/tidemark/usage/WindowQueueApproximateResponsePinLaw" = some m.cls := findClass_of_methodNamed Bd.named
  have hnm := (name_of_methodNamed Bd.named Bd.method).1
  have X0 : Stand p l e room_1 s m #[(.int p1), (.int p2), (.int p3), (.int p4), (.int p5)] below meth c s₁ [] 0 0 := Stand.of_body Bd
  have e0 : s₁.heap = h0 := by rw [← hh, Bd.state]; rfl
  have N0 := Fr.nil n0
  have pre0 : ∀ t, Steps p.tables e below (s₁.setTop (mkF m 0 #[.val (.int p1), .val (.int p2), .val (.int p3), .val (.int p4), .val (.int p5), .unset, .unset, .unset, .unset, .unset, .unset, .unset, .unset, .unset, .unset, .unset, .unset, .unset, .unset, .unset, .unset, .unset, .unset, .unset, .unset, .unset, .unset] [])) t → Steps p.tables e below (s₁.setTop (entryFrame m #[(.int p1), (.int p2), (.int p3), (.int p4), (.int p5)] maxLocals)) t := fun t k => castTop (ef_0 m p1 p2 p3 p4 p5) k
  obtain ⟨_, _, ⟨T6, L6, k6, n6⟩, -, X6, ⟨Lc6, hQ6, l6, y6, z6⟩, st6⟩ := Jvm.LawKit.callS X0 hx (y := (⟨"dev/tidemark/usage/WindowQueue", "approximateResponse", "(DDDD)Ldev/tidemark/usage/WindowQueue$Response;"⟩ : MethodName)) hown (mvT hZ (hw _ (List.mem_of_getElem? (i := 0) rfl))) (mvT hZ (hw _ (List.mem_of_getElem? (i := 1) rfl))) (mvT hZ (hw _ (List.mem_of_getElem? (i := 2) rfl))) (mvT hZ (hw _ (List.mem_of_getElem? (i := 3) rfl))) (by decide) (backOf (W := 0) hC hZ (hw _ (List.mem_of_getElem? (i := 3) rfl)) (hw _ (List.mem_of_getElem? (i := 2) rfl)) (by decide) (by decide)) (g := (mkF m 165 #[.val (.int p1), .val (.int p2), .val (.int p3), .val (.int p4), .val (.int p5), .val (.int (p5 &&& (3 : Int32))), .val (.long kk144), .second, .val (.long kk117), .second, .val (.long kk128), .second, .val (.long kk136), .second, .val (.long (kk128 - kk117)), .second, .unset, .unset, .unset, .unset, .unset, .unset, .unset, .unset, .unset, .unset, .unset] [(.double (FP.l2d kk136)), (.double (FP.l2d kk128)), (.double (FP.l2d kk117)), (.double (FP.l2d kk144))])) rfl (by rw [hml]; rfl) (argsL := [(.double (FP.l2d kk144)), (.double (FP.l2d kk117)), (.double (FP.l2d kk128)), (.double (FP.l2d kk136))]) (rest := []) (lenOf pd_0_0 rfl) rfl (by show 2 * 0 + _ ≤ _; exact Nat.le_of_eq rfl) (hb hby at_165) (fun _ _ => ⟨rfl, e0, (by decide : 0 + 1 ≤ _), (by decide : 0 + 2 ≤ _)⟩)
  dsimp only [Pt.U, Pt.locs, Pt.cells, Pt.slots] at X6 l6 y6 z6 st6 hQ6
  subst l6 y6 z6
  obtain ⟨bR, rfl, N6q, K6c, E6, Ft6, Fs6⟩ := hQ6
  have Z6 : n0 ≤ T6.heap.size := Nat.le_trans Z0 K6c.1
  have N6 := Fr.app N0 N6q
  obtain ⟨cq7, kq7, q7a, q7b, q7c⟩ := isOf hZ rfl (E6.keep (Keep.refl _ []))
  obtain ⟨_, _, ⟨T7, L7, k7, n7⟩, -, X7, ⟨Lc7, hQ7, l7, y7, z7⟩, st7⟩ := X6.virtualBack hx (y := (⟨"dev/tidemark/usage/WindowQueue$Response", "time", "()D"⟩ : MethodName)) (z := (⟨"dev/tidemark/usage/WindowQueue$Response", "time", "()D"⟩ : MethodName)) hown (mvT hZ (hw _ (List.mem_of_getElem? (i := 25) rfl))) (mvT hZ (hw _ (List.mem_of_getElem? (i := 26) rfl))) (notFace_of_selects (args := #[]) (mvT hZ (hw _ (List.mem_of_getElem? (i := 28) rfl)))) (mvT hZ (hw _ (List.mem_of_getElem? (i := 28) rfl))) (mvT hZ (hw _ (List.mem_of_getElem? (i := 27) rfl))) (by decide) (backOf (W := 0) (rm5 l Z a0 hw [] bR tm T6.heap n0 Z6 Ft6) hZ (hw _ (List.mem_of_getElem? (i := 29) rfl)) (hw _ (List.mem_of_getElem? (i := 7) rfl)) (by decide) (by decide)) q7a q7c (g := (mkF m 303 #[.val (.int p1), .val (.int p2), .val (.int p3), .val (.int p4), .val (.int p5), .val (.int (p5 &&& (3 : Int32))), .val (.long kk144), .second, .val (.long kk117), .second, .val (.long kk128), .second, .val (.long kk136), .second, .val (.long (kk128 - kk117)), .second, .val (.ref bR), .val (.long kk203), .second, .val (.long kk217), .second, .val (.double r239), .second, .val (.double r287), .second, .val (.double r298), .second] [(.ref bR)])) rfl (by rw [hml]; rfl) (Steps.refl _) (argsL := []) (rest := []) (lenOf pd_0_3 rfl) rfl (by show 2 * 0 + _ ≤ _; exact Nat.le_of_eq rfl) (hb hby at_303) (fun _ _ => ⟨rfl, rfl, (by decide : 1 + 0 ≤ _), (by decide : 2 + 0 ≤ _)⟩)
  dsimp only [Pt.U, Pt.locs, Pt.cells, Pt.slots] at X7 l7 y7 z7 st7 hQ7
  subst l7 y7 z7
  obtain ⟨rfl, N7q, eh7⟩ := hQ7
  have K7c : Keep T6.heap T7.heap [] := by rw [eh7]; exact Keep.refl _ _
  have Z7 : n0 ≤ T7.heap.size := Nat.le_trans Z6 K7c.1
  have N7 := Fr.app N6 N7q
  obtain ⟨cq8, kq8, q8a, q8b, q8c⟩ := isOf hZ rfl ((E6.keep (Keep.refl _ [])).keep K7c)
  obtain ⟨_, _, ⟨T8, L8, k8, n8⟩, -, X8, ⟨Lc8, hQ8, l8, y8, z8⟩, st8⟩ := X7.virtualBack hx (y := (⟨"dev/tidemark/usage/WindowQueue$Response", "slope", "()D"⟩ : MethodName)) (z := (⟨"dev/tidemark/usage/WindowQueue$Response", "slope", "()D"⟩ : MethodName)) hown (mvT hZ (hw _ (List.mem_of_getElem? (i := 30) rfl))) (mvT hZ (hw _ (List.mem_of_getElem? (i := 31) rfl))) (notFace_of_selects (args := #[]) (mvT hZ (hw _ (List.mem_of_getElem? (i := 33) rfl)))) (mvT hZ (hw _ (List.mem_of_getElem? (i := 33) rfl))) (mvT hZ (hw _ (List.mem_of_getElem? (i := 32) rfl))) (by decide) (backOf (W := 0) (rm6 l Z a0 hw [] bR sl T7.heap n0 Z7 (Fs6.keep K7c (by simp))) hZ (hw _ (List.mem_of_getElem? (i := 34) rfl)) (hw _ (List.mem_of_getElem? (i := 7) rfl)) (by decide) (by decide)) q8a q8c (g := (mkF m 314 #[.val (.int p1), .val (.int p2), .val (.int p3), .val (.int p4), .val (.int p5), .val (.int (p5 &&& (3 : Int32))), .val (.long kk144), .second, .val (.long kk117), .second, .val (.long kk128), .second, .val (.long kk136), .second, .val (.long (kk128 - kk117)), .second, .val (.ref bR), .val (.long kk203), .second, .val (.long kk217), .second, .val (.double r239), .second, .val (.double r287), .second, .val (.double r298), .second] [(.ref bR)])) rfl (by rw [hml]; rfl) (Steps.refl _) (argsL := []) (rest := []) (lenOf pd_0_3 rfl) rfl (by show 2 * 0 + _ ≤ _; exact Nat.le_of_eq rfl) (hb hby at_314) (fun _ _ => ⟨rfl, rfl, (by decide : 1 + 0 ≤ _), (by decide : 2 + 0 ≤ _)⟩)
  dsimp only [Pt.U, Pt.locs, Pt.cells, Pt.slots] at X8 l8 y8 z8 st8 hQ8
  subst l8 y8 z8
  obtain ⟨rfl, N8q, eh8⟩ := hQ8
  have N8 := Fr.app N7 N8q
  obtain ⟨fs, hr, hrun, hended, hW, hsame⟩ := X8.leave (v := some (.int (1 : Int32))) (fun h => by rw [Bd.returns] at h; cases h)
  refine ⟨_, _, pre0 _ ?_, hrun, hended, _, _, rfl, ?_, ⟨_, rfl⟩, hW, hsame.mono (by decide) (by decide)⟩
  · show Steps p.tables e below (s₁.setTop (mkF m 0 #[.val (.int p1), .val (.int p2), .val (.int p3), .val (.int p4), .val (.int p5), .unset, .unset, .unset, .unset, .unset, .unset, .unset, .unset, .unset, .unset, .unset, .unset, .unset, .unset, .unset, .unset, .unset, .unset, .unset, .unset, .unset, .unset] [])) _
    refine XS.iload X0.here hx rfl (hb hby at_0) rfl ?_
    show Steps p.tables e below (s₁.setTop (mkF m 2 #[.val (.int p1), .val (.int p2), .val (.int p3), .val (.int p4), .val (.int p5), .unset, .unset, .unset, .unset, .unset, .unset, .unset, .unset, .unset, .unset, .unset, .unset, .unset, .unset, .unset, .unset, .unset, .unset, .unset, .unset, .unset, .unset] [(.int p5)])) _
    refine XS.iconst X0.here hx rfl (hb hby at_2) ?_
    show Steps p.tables e below (s₁.setTop (mkF m 3 #[.val (.int p1), .val (.int p2), .val (.int p3), .val (.int p4), .val (.int p5), .unset, .unset, .unset, .unset, .unset, .unset, .unset, .unset, .unset, .unset, .unset, .unset, .unset, .unset, .unset, .unset, .unset, .unset, .unset, .unset, .unset, .unset] [(.int (3 : Int32)), (.int p5)])) _
    refine XS.iand X0.here hx rfl (hb hby at_3) rfl ?_
    show Steps p.tables e below (s₁.setTop (mkF m 4 #[.val (.int p1), .val (.int p2), .val (.int p3), .val (.int p4), .val (.int p5), .unset, .unset, .unset, .unset, .unset, .unset, .unset, .unset, .unset, .unset, .unset, .unset, .unset, .unset, .unset, .unset, .unset, .unset, .unset, .unset, .unset, .unset] [(.int (p5 &&& (3 : Int32)))])) _
    refine XS.istore X0.here hx rfl (hb hby at_4) rfl (l' := #[.val (.int p1), .val (.int p2), .val (.int p3), .val (.int p4), .val (.int p5), .val (.int (p5 &&& (3 : Int32))), .unset, .unset, .unset, .unset, .unset, .unset, .unset, .unset, .unset, .unset, .unset, .unset, .unset, .unset, .unset, .unset, .unset, .unset, .unset, .unset, .unset]) rfl ?_
    show Steps p.tables e below (s₁.setTop (mkF m 6 #[.val (.int p1), .val (.int p2), .val (.int p3), .val (.int p4), .val (.int p5), .val (.int (p5 &&& (3 : Int32))), .unset, .unset, .unset, .unset, .unset, .unset, .unset, .unset, .unset, .unset, .unset, .unset, .unset, .unset, .unset, .unset, .unset, .unset, .unset, .unset, .unset] [])) _
    refine XS.iload X0.here hx rfl (hb hby at_6) rfl ?_
    show Steps p.tables e below (s₁.setTop (mkF m 8 #[.val (.int p1), .val (.int p2), .val (.int p3), .val (.int p4), .val (.int p5), .val (.int (p5 &&& (3 : Int32))), .unset, .unset, .unset, .unset, .unset, .unset, .unset, .unset, .unset, .unset, .unset, .unset, .unset, .unset, .unset, .unset, .unset, .unset, .unset, .unset, .unset] [(.int (p5 &&& (3 : Int32)))])) _
    refine XS.ifYes X0.here hx rfl (pc0 := 8) (pc' := 53) rfl (hb hby at_8) rfl ((if0 _ _).trans (feq hc8).2) (by decide) (by decide) ?_
    show Steps p.tables e below (s₁.setTop (mkF m 53 #[.val (.int p1), .val (.int p2), .val (.int p3), .val (.int p4), .val (.int p5), .val (.int (p5 &&& (3 : Int32))), .unset, .unset, .unset, .unset, .unset, .unset, .unset, .unset, .unset, .unset, .unset, .unset, .unset, .unset, .unset, .unset, .unset, .unset, .unset, .unset, .unset] [])) _
    refine XS.iload X0.here hx rfl (hb hby at_53) rfl ?_
    show Steps p.tables e below (s₁.setTop (mkF m 55 #[.val (.int p1), .val (.int p2), .val (.int p3), .val (.int p4), .val (.int p5), .val (.int (p5 &&& (3 : Int32))), .unset, .unset, .unset, .unset, .unset, .unset, .unset, .unset, .unset, .unset, .unset, .unset, .unset, .unset, .unset, .unset, .unset, .unset, .unset, .unset, .unset] [(.int (p5 &&& (3 : Int32)))])) _
    refine XS.iconst X0.here hx rfl (hb hby at_55) ?_
    show Steps p.tables e below (s₁.setTop (mkF m 56 #[.val (.int p1), .val (.int p2), .val (.int p3), .val (.int p4), .val (.int p5), .val (.int (p5 &&& (3 : Int32))), .unset, .unset, .unset, .unset, .unset, .unset, .unset, .unset, .unset, .unset, .unset, .unset, .unset, .unset, .unset, .unset, .unset, .unset, .unset, .unset, .unset] [(.int (2 : Int32)), (.int (p5 &&& (3 : Int32)))])) _
    refine XS.icmpYes X0.here hx rfl (pc0 := 56) (pc' := 111) rfl (hb hby at_56) rfl (feq hc56).2 (by decide) (by decide) ?_
    show Steps p.tables e below (s₁.setTop (mkF m 111 #[.val (.int p1), .val (.int p2), .val (.int p3), .val (.int p4), .val (.int p5), .val (.int (p5 &&& (3 : Int32))), .unset, .unset, .unset, .unset, .unset, .unset, .unset, .unset, .unset, .unset, .unset, .unset, .unset, .unset, .unset, .unset, .unset, .unset, .unset, .unset, .unset] [])) _
    refine XS.iloadN X0.here hx rfl (hb hby at_111) rfl ?_
    show Steps p.tables e below (s₁.setTop (mkF m 112 #[.val (.int p1), .val (.int p2), .val (.int p3), .val (.int p4), .val (.int p5), .val (.int (p5 &&& (3 : Int32))), .unset, .unset, .unset, .unset, .unset, .unset, .unset, .unset, .unset, .unset, .unset, .unset, .unset, .unset, .unset, .unset, .unset, .unset, .unset, .unset, .unset] [(.int p2)])) _
    refine XS.sipush X0.here hx rfl (hb hby at_112) ?_
    show Steps p.tables e below (s₁.setTop (mkF m 115 #[.val (.int p1), .val (.int p2), .val (.int p3), .val (.int p4), .val (.int p5), .val (.int (p5 &&& (3 : Int32))), .unset, .unset, .unset, .unset, .unset, .unset, .unset, .unset, .unset, .unset, .unset, .unset, .unset, .unset, .unset, .unset, .unset, .unset, .unset, .unset, .unset] [(.int (1023 : Int32)), (.int p2)])) _
    refine XS.iand X0.here hx rfl (hb hby at_115) rfl ?_
    show Steps p.tables e below (s₁.setTop (mkF m 116 #[.val (.int p1), .val (.int p2), .val (.int p3), .val (.int p4), .val (.int p5), .val (.int (p5 &&& (3 : Int32))), .unset, .unset, .unset, .unset, .unset, .unset, .unset, .unset, .unset, .unset, .unset, .unset, .unset, .unset, .unset, .unset, .unset, .unset, .unset, .unset, .unset] [(.int (p2 &&& (1023 : Int32)))])) _
    refine XS.i2l X0.here hx rfl (hb hby at_116) rfl ?_
    show Steps p.tables e below (s₁.setTop (mkF m 117 #[.val (.int p1), .val (.int p2), .val (.int p3), .val (.int p4), .val (.int p5), .val (.int (p5 &&& (3 : Int32))), .unset, .unset, .unset, .unset, .unset, .unset, .unset, .unset, .unset, .unset, .unset, .unset, .unset, .unset, .unset, .unset, .unset, .unset, .unset, .unset, .unset] [(.long ((p2 &&& (1023 : Int32)).toInt64))])) _
    refine XS.lstore X0.here hx rfl (hb hby at_117) rfl (l' := #[.val (.int p1), .val (.int p2), .val (.int p3), .val (.int p4), .val (.int p5), .val (.int (p5 &&& (3 : Int32))), .unset, .unset, .val (.long ((p2 &&& (1023 : Int32)).toInt64)), .second, .unset, .unset, .unset, .unset, .unset, .unset, .unset, .unset, .unset, .unset, .unset, .unset, .unset, .unset, .unset, .unset, .unset]) rfl ?_
    show Steps p.tables e below (s₁.setTop (mkF m 119 #[.val (.int p1), .val (.int p2), .val (.int p3), .val (.int p4), .val (.int p5), .val (.int (p5 &&& (3 : Int32))), .unset, .unset, .val (.long ((p2 &&& (1023 : Int32)).toInt64)), .second, .unset, .unset, .unset, .unset, .unset, .unset, .unset, .unset, .unset, .unset, .unset, .unset, .unset, .unset, .unset, .unset, .unset] [])) _
    rw [hk117]
    show Steps p.tables e below (s₁.setTop (mkF m 119 #[.val (.int p1), .val (.int p2), .val (.int p3), .val (.int p4), .val (.int p5), .val (.int (p5 &&& (3 : Int32))), .unset, .unset, .val (.long kk117), .second, .unset, .unset, .unset, .unset, .unset, .unset, .unset, .unset, .unset, .unset, .unset, .unset, .unset, .unset, .unset, .unset, .unset] [])) _
    refine XS.lload X0.here hx rfl (hb hby at_119) rfl ?_
    show Steps p.tables e below (s₁.setTop (mkF m 121 #[.val (.int p1), .val (.int p2), .val (.int p3), .val (.int p4), .val (.int p5), .val (.int (p5 &&& (3 : Int32))), .unset, .unset, .val (.long kk117), .second, .unset, .unset, .unset, .unset, .unset, .unset, .unset, .unset, .unset, .unset, .unset, .unset, .unset, .unset, .unset, .unset, .unset] [(.long kk117)])) _
    refine XS.lconst X0.here hx rfl (hb hby at_121) ?_
    show Steps p.tables e below (s₁.setTop (mkF m 122 #[.val (.int p1), .val (.int p2), .val (.int p3), .val (.int p4), .val (.int p5), .val (.int (p5 &&& (3 : Int32))), .unset, .unset, .val (.long kk117), .second, .unset, .unset, .unset, .unset, .unset, .unset, .unset, .unset, .unset, .unset, .unset, .unset, .unset, .unset, .unset, .unset, .unset] [(.long (1 : Int64)), (.long kk117)])) _
    refine XS.iloadN X0.here hx rfl (hb hby at_122) rfl ?_
    show Steps p.tables e below (s₁.setTop (mkF m 123 #[.val (.int p1), .val (.int p2), .val (.int p3), .val (.int p4), .val (.int p5), .val (.int (p5 &&& (3 : Int32))), .unset, .unset, .val (.long kk117), .second, .unset, .unset, .unset, .unset, .unset, .unset, .unset, .unset, .unset, .unset, .unset, .unset, .unset, .unset, .unset, .unset, .unset] [(.int p3), (.long (1 : Int64)), (.long kk117)])) _
    refine XS.bipush X0.here hx rfl (hb hby at_123) ?_
    show Steps p.tables e below (s₁.setTop (mkF m 125 #[.val (.int p1), .val (.int p2), .val (.int p3), .val (.int p4), .val (.int p5), .val (.int (p5 &&& (3 : Int32))), .unset, .unset, .val (.long kk117), .second, .unset, .unset, .unset, .unset, .unset, .unset, .unset, .unset, .unset, .unset, .unset, .unset, .unset, .unset, .unset, .unset, .unset] [(.int (7 : Int32)), (.int p3), (.long (1 : Int64)), (.long kk117)])) _
    refine XS.iand X0.here hx rfl (hb hby at_125) rfl ?_
    show Steps p.tables e below (s₁.setTop (mkF m 126 #[.val (.int p1), .val (.int p2), .val (.int p3), .val (.int p4), .val (.int p5), .val (.int (p5 &&& (3 : Int32))), .unset, .unset, .val (.long kk117), .second, .unset, .unset, .unset, .unset, .unset, .unset, .unset, .unset, .unset, .unset, .unset, .unset, .unset, .unset, .unset, .unset, .unset] [(.int (p3 &&& (7 : Int32))), (.long (1 : Int64)), (.long kk117)])) _
    refine XS.lshl X0.here hx rfl (hb hby at_126) rfl ?_
    show Steps p.tables e below (s₁.setTop (mkF m 127 #[.val (.int p1), .val (.int p2), .val (.int p3), .val (.int p4), .val (.int p5), .val (.int (p5 &&& (3 : Int32))), .unset, .unset, .val (.long kk117), .second, .unset, .unset, .unset, .unset, .unset, .unset, .unset, .unset, .unset, .unset, .unset, .unset, .unset, .unset, .unset, .unset, .unset] [(.long ((1 : Int64) <<< ((p3 &&& (7 : Int32)) &&& 0x3f).toInt64)), (.long kk117)])) _
    refine XS.ladd X0.here hx rfl (hb hby at_127) rfl ?_
    show Steps p.tables e below (s₁.setTop (mkF m 128 #[.val (.int p1), .val (.int p2), .val (.int p3), .val (.int p4), .val (.int p5), .val (.int (p5 &&& (3 : Int32))), .unset, .unset, .val (.long kk117), .second, .unset, .unset, .unset, .unset, .unset, .unset, .unset, .unset, .unset, .unset, .unset, .unset, .unset, .unset, .unset, .unset, .unset] [(.long (kk117 + ((1 : Int64) <<< ((p3 &&& (7 : Int32)) &&& 0x3f).toInt64)))])) _
    refine XS.lstore X0.here hx rfl (hb hby at_128) rfl (l' := #[.val (.int p1), .val (.int p2), .val (.int p3), .val (.int p4), .val (.int p5), .val (.int (p5 &&& (3 : Int32))), .unset, .unset, .val (.long kk117), .second, .val (.long (kk117 + ((1 : Int64) <<< ((p3 &&& (7 : Int32)) &&& 0x3f).toInt64))), .second, .unset, .unset, .unset, .unset, .unset, .unset, .unset, .unset, .unset, .unset, .unset, .unset, .unset, .unset, .unset]) rfl ?_
    show Steps p.tables e below (s₁.setTop (mkF m 130 #[.val (.int p1), .val (.int p2), .val (.int p3), .val (.int p4), .val (.int p5), .val (.int (p5 &&& (3 : Int32))), .unset, .unset, .val (.long kk117), .second, .val (.long (kk117 + ((1 : Int64) <<< ((p3 &&& (7 : Int32)) &&& 0x3f).toInt64))), .second, .unset, .unset, .unset, .unset, .unset, .unset, .unset, .unset, .unset, .unset, .unset, .unset, .unset, .unset, .unset] [])) _
    rw [hk128]
    show Steps p.tables e below (s₁.setTop (mkF m 130 #[.val (.int p1), .val (.int p2), .val (.int p3), .val (.int p4), .val (.int p5), .val (.int (p5 &&& (3 : Int32))), .unset, .unset, .val (.long kk117), .second, .val (.long kk128), .second, .unset, .unset, .unset, .unset, .unset, .unset, .unset, .unset, .unset, .unset, .unset, .unset, .unset, .unset, .unset] [])) _
    refine XS.lconst X0.here hx rfl (hb hby at_130) ?_
    show Steps p.tables e below (s₁.setTop (mkF m 131 #[.val (.int p1), .val (.int p2), .val (.int p3), .val (.int p4), .val (.int p5), .val (.int (p5 &&& (3 : Int32))), .unset, .unset, .val (.long kk117), .second, .val (.long kk128), .second, .unset, .unset, .unset, .unset, .unset, .unset, .unset, .unset, .unset, .unset, .unset, .unset, .unset, .unset, .unset] [(.long (1 : Int64))])) _
    refine XS.iloadN X0.here hx rfl (hb hby at_131) rfl ?_
    show Steps p.tables e below (s₁.setTop (mkF m 132 #[.val (.int p1), .val (.int p2), .val (.int p3), .val (.int p4), .val (.int p5), .val (.int (p5 &&& (3 : Int32))), .unset, .unset, .val (.long kk117), .second, .val (.long kk128), .second, .unset, .unset, .unset, .unset, .unset, .unset, .unset, .unset, .unset, .unset, .unset, .unset, .unset, .unset, .unset] [(.int p4), (.long (1 : Int64))])) _
    refine XS.bipush X0.here hx rfl (hb hby at_132) ?_
    show Steps p.tables e below (s₁.setTop (mkF m 134 #[.val (.int p1), .val (.int p2), .val (.int p3), .val (.int p4), .val (.int p5), .val (.int (p5 &&& (3 : Int32))), .unset, .unset, .val (.long kk117), .second, .val (.long kk128), .second, .unset, .unset, .unset, .unset, .unset, .unset, .unset, .unset, .unset, .unset, .unset, .unset, .unset, .unset, .unset] [(.int (7 : Int32)), (.int p4), (.long (1 : Int64))])) _
    refine XS.iand X0.here hx rfl (hb hby at_134) rfl ?_
    show Steps p.tables e below (s₁.setTop (mkF m 135 #[.val (.int p1), .val (.int p2), .val (.int p3), .val (.int p4), .val (.int p5), .val (.int (p5 &&& (3 : Int32))), .unset, .unset, .val (.long kk117), .second, .val (.long kk128), .second, .unset, .unset, .unset, .unset, .unset, .unset, .unset, .unset, .unset, .unset, .unset, .unset, .unset, .unset, .unset] [(.int (p4 &&& (7 : Int32))), (.long (1 : Int64))])) _
    refine XS.lshl X0.here hx rfl (hb hby at_135) rfl ?_
    show Steps p.tables e below (s₁.setTop (mkF m 136 #[.val (.int p1), .val (.int p2), .val (.int p3), .val (.int p4), .val (.int p5), .val (.int (p5 &&& (3 : Int32))), .unset, .unset, .val (.long kk117), .second, .val (.long kk128), .second, .unset, .unset, .unset, .unset, .unset, .unset, .unset, .unset, .unset, .unset, .unset, .unset, .unset, .unset, .unset] [(.long ((1 : Int64) <<< ((p4 &&& (7 : Int32)) &&& 0x3f).toInt64))])) _
    refine XS.lstore X0.here hx rfl (hb hby at_136) rfl (l' := #[.val (.int p1), .val (.int p2), .val (.int p3), .val (.int p4), .val (.int p5), .val (.int (p5 &&& (3 : Int32))), .unset, .unset, .val (.long kk117), .second, .val (.long kk128), .second, .val (.long ((1 : Int64) <<< ((p4 &&& (7 : Int32)) &&& 0x3f).toInt64)), .second, .unset, .unset, .unset, .unset, .unset, .unset, .unset, .unset, .unset, .unset, .unset, .unset, .unset]) rfl ?_
    show Steps p.tables e below (s₁.setTop (mkF m 138 #[.val (.int p1), .val (.int p2), .val (.int p3), .val (.int p4), .val (.int p5), .val (.int (p5 &&& (3 : Int32))), .unset, .unset, .val (.long kk117), .second, .val (.long kk128), .second, .val (.long ((1 : Int64) <<< ((p4 &&& (7 : Int32)) &&& 0x3f).toInt64)), .second, .unset, .unset, .unset, .unset, .unset, .unset, .unset, .unset, .unset, .unset, .unset, .unset, .unset] [])) _
    rw [hk136]
    show Steps p.tables e below (s₁.setTop (mkF m 138 #[.val (.int p1), .val (.int p2), .val (.int p3), .val (.int p4), .val (.int p5), .val (.int (p5 &&& (3 : Int32))), .unset, .unset, .val (.long kk117), .second, .val (.long kk128), .second, .val (.long kk136), .second, .unset, .unset, .unset, .unset, .unset, .unset, .unset, .unset, .unset, .unset, .unset, .unset, .unset] [])) _
    refine XS.iloadN X0.here hx rfl (hb hby at_138) rfl ?_
    show Steps p.tables e below (s₁.setTop (mkF m 139 #[.val (.int p1), .val (.int p2), .val (.int p3), .val (.int p4), .val (.int p5), .val (.int (p5 &&& (3 : Int32))), .unset, .unset, .val (.long kk117), .second, .val (.long kk128), .second, .val (.long kk136), .second, .unset, .unset, .unset, .unset, .unset, .unset, .unset, .unset, .unset, .unset, .unset, .unset, .unset] [(.int p1)])) _
    refine XS.sipush X0.here hx rfl (hb hby at_139) ?_
    show Steps p.tables e below (s₁.setTop (mkF m 142 #[.val (.int p1), .val (.int p2), .val (.int p3), .val (.int p4), .val (.int p5), .val (.int (p5 &&& (3 : Int32))), .unset, .unset, .val (.long kk117), .second, .val (.long kk128), .second, .val (.long kk136), .second, .unset, .unset, .unset, .unset, .unset, .unset, .unset, .unset, .unset, .unset, .unset, .unset, .unset] [(.int (32767 : Int32)), (.int p1)])) _
    refine XS.iand X0.here hx rfl (hb hby at_142) rfl ?_
    show Steps p.tables e below (s₁.setTop (mkF m 143 #[.val (.int p1), .val (.int p2), .val (.int p3), .val (.int p4), .val (.int p5), .val (.int (p5 &&& (3 : Int32))), .unset, .unset, .val (.long kk117), .second, .val (.long kk128), .second, .val (.long kk136), .second, .unset, .unset, .unset, .unset, .unset, .unset, .unset, .unset, .unset, .unset, .unset, .unset, .unset] [(.int (p1 &&& (32767 : Int32)))])) _
    refine XS.i2l X0.here hx rfl (hb hby at_143) rfl ?_
    show Steps p.tables e below (s₁.setTop (mkF m 144 #[.val (.int p1), .val (.int p2), .val (.int p3), .val (.int p4), .val (.int p5), .val (.int (p5 &&& (3 : Int32))), .unset, .unset, .val (.long kk117), .second, .val (.long kk128), .second, .val (.long kk136), .second, .unset, .unset, .unset, .unset, .unset, .unset, .unset, .unset, .unset, .unset, .unset, .unset, .unset] [(.long ((p1 &&& (32767 : Int32)).toInt64))])) _
    refine XS.lstore X0.here hx rfl (hb hby at_144) rfl (l' := #[.val (.int p1), .val (.int p2), .val (.int p3), .val (.int p4), .val (.int p5), .val (.int (p5 &&& (3 : Int32))), .val (.long ((p1 &&& (32767 : Int32)).toInt64)), .second, .val (.long kk117), .second, .val (.long kk128), .second, .val (.long kk136), .second, .unset, .unset, .unset, .unset, .unset, .unset, .unset, .unset, .unset, .unset, .unset, .unset, .unset]) rfl ?_
    show Steps p.tables e below (s₁.setTop (mkF m 146 #[.val (.int p1), .val (.int p2), .val (.int p3), .val (.int p4), .val (.int p5), .val (.int (p5 &&& (3 : Int32))), .val (.long ((p1 &&& (32767 : Int32)).toInt64)), .second, .val (.long kk117), .second, .val (.long kk128), .second, .val (.long kk136), .second, .unset, .unset, .unset, .unset, .unset, .unset, .unset, .unset, .unset, .unset, .unset, .unset, .unset] [])) _
    rw [hk144]
    show Steps p.tables e below (s₁.setTop (mkF m 146 #[.val (.int p1), .val (.int p2), .val (.int p3), .val (.int p4), .val (.int p5), .val (.int (p5 &&& (3 : Int32))), .val (.long kk144), .second, .val (.long kk117), .second, .val (.long kk128), .second, .val (.long kk136), .second, .unset, .unset, .unset, .unset, .unset, .unset, .unset, .unset, .unset, .unset, .unset, .unset, .unset] [])) _
    refine XS.lload X0.here hx rfl (hb hby at_146) rfl ?_
    show Steps p.tables e below (s₁.setTop (mkF m 148 #[.val (.int p1), .val (.int p2), .val (.int p3), .val (.int p4), .val (.int p5), .val (.int (p5 &&& (3 : Int32))), .val (.long kk144), .second, .val (.long kk117), .second, .val (.long kk128), .second, .val (.long kk136), .second, .unset, .unset, .unset, .unset, .unset, .unset, .unset, .unset, .unset, .unset, .unset, .unset, .unset] [(.long kk128)])) _
    refine XS.lload X0.here hx rfl (hb hby at_148) rfl ?_
    show Steps p.tables e below (s₁.setTop (mkF m 150 #[.val (.int p1), .val (.int p2), .val (.int p3), .val (.int p4), .val (.int p5), .val (.int (p5 &&& (3 : Int32))), .val (.long kk144), .second, .val (.long kk117), .second, .val (.long kk128), .second, .val (.long kk136), .second, .unset, .unset, .unset, .unset, .unset, .unset, .unset, .unset, .unset, .unset, .unset, .unset, .unset] [(.long kk117), (.long kk128)])) _
    refine XS.lsub X0.here hx rfl (hb hby at_150) rfl ?_
    show Steps p.tables e below (s₁.setTop (mkF m 151 #[.val (.int p1), .val (.int p2), .val (.int p3), .val (.int p4), .val (.int p5), .val (.int (p5 &&& (3 : Int32))), .val (.long kk144), .second, .val (.long kk117), .second, .val (.long kk128), .second, .val (.long kk136), .second, .unset, .unset, .unset, .unset, .unset, .unset, .unset, .unset, .unset, .unset, .unset, .unset, .unset] [(.long (kk128 - kk117))])) _
    refine XS.lstore X0.here hx rfl (hb hby at_151) rfl (l' := #[.val (.int p1), .val (.int p2), .val (.int p3), .val (.int p4), .val (.int p5), .val (.int (p5 &&& (3 : Int32))), .val (.long kk144), .second, .val (.long kk117), .second, .val (.long kk128), .second, .val (.long kk136), .second, .val (.long (kk128 - kk117)), .second, .unset, .unset, .unset, .unset, .unset, .unset, .unset, .unset, .unset, .unset, .unset]) rfl ?_
    show Steps p.tables e below (s₁.setTop (mkF m 153 #[.val (.int p1), .val (.int p2), .val (.int p3), .val (.int p4), .val (.int p5), .val (.int (p5 &&& (3 : Int32))), .val (.long kk144), .second, .val (.long kk117), .second, .val (.long kk128), .second, .val (.long kk136), .second, .val (.long (kk128 - kk117)), .second, .unset, .unset, .unset, .unset, .unset, .unset, .unset, .unset, .unset, .unset, .unset] [])) _
    refine XS.lload X0.here hx rfl (hb hby at_153) rfl ?_
    show Steps p.tables e below (s₁.setTop (mkF m 155 #[.val (.int p1), .val (.int p2), .val (.int p3), .val (.int p4), .val (.int p5), .val (.int (p5 &&& (3 : Int32))), .val (.long kk144), .second, .val (.long kk117), .second, .val (.long kk128), .second, .val (.long kk136), .second, .val (.long (kk128 - kk117)), .second, .unset, .unset, .unset, .unset, .unset, .unset, .unset, .unset, .unset, .unset, .unset] [(.long kk144)])) _
    refine XS.l2dS X0.here hx rfl (hb hby at_155) rfl rfl ?_
    show Steps p.tables e below (s₁.setTop (mkF m 156 #[.val (.int p1), .val (.int p2), .val (.int p3), .val (.int p4), .val (.int p5), .val (.int (p5 &&& (3 : Int32))), .val (.long kk144), .second, .val (.long kk117), .second, .val (.long kk128), .second, .val (.long kk136), .second, .val (.long (kk128 - kk117)), .second, .unset, .unset, .unset, .unset, .unset, .unset, .unset, .unset, .unset, .unset, .unset] [(.double (FP.l2d kk144))])) _
    refine XS.lload X0.here hx rfl (hb hby at_156) rfl ?_
    show Steps p.tables e below (s₁.setTop (mkF m 158 #[.val (.int p1), .val (.int p2), .val (.int p3), .val (.int p4), .val (.int p5), .val (.int (p5 &&& (3 : Int32))), .val (.long kk144), .second, .val (.long kk117), .second, .val (.long kk128), .second, .val (.long kk136), .second, .val (.long (kk128 - kk117)), .second, .unset, .unset, .unset, .unset, .unset, .unset, .unset, .unset, .unset, .unset, .unset] [(.long kk117), (.double (FP.l2d kk144))])) _
    refine XS.l2dS X0.here hx rfl (hb hby at_158) rfl rfl ?_
    show Steps p.tables e below (s₁.setTop (mkF m 159 #[.val (.int p1), .val (.int p2), .val (.int p3), .val (.int p4), .val (.int p5), .val (.int (p5 &&& (3 : Int32))), .val (.long kk144), .second, .val (.long kk117), .second, .val (.long kk128), .second, .val (.long kk136), .second, .val (.long (kk128 - kk117)), .second, .unset, .unset, .unset, .unset, .unset, .unset, .unset, .unset, .unset, .unset, .unset] [(.double (FP.l2d kk117)), (.double (FP.l2d kk144))])) _
    refine XS.lload X0.here hx rfl (hb hby at_159) rfl ?_
    show Steps p.tables e below (s₁.setTop (mkF m 161 #[.val (.int p1), .val (.int p2), .val (.int p3), .val (.int p4), .val (.int p5), .val (.int (p5 &&& (3 : Int32))), .val (.long kk144), .second, .val (.long kk117), .second, .val (.long kk128), .second, .val (.long kk136), .second, .val (.long (kk128 - kk117)), .second, .unset, .unset, .unset, .unset, .unset, .unset, .unset, .unset, .unset, .unset, .unset] [(.long kk128), (.double (FP.l2d kk117)), (.double (FP.l2d kk144))])) _
    refine XS.l2dS X0.here hx rfl (hb hby at_161) rfl rfl ?_
    show Steps p.tables e below (s₁.setTop (mkF m 162 #[.val (.int p1), .val (.int p2), .val (.int p3), .val (.int p4), .val (.int p5), .val (.int (p5 &&& (3 : Int32))), .val (.long kk144), .second, .val (.long kk117), .second, .val (.long kk128), .second, .val (.long kk136), .second, .val (.long (kk128 - kk117)), .second, .unset, .unset, .unset, .unset, .unset, .unset, .unset, .unset, .unset, .unset, .unset] [(.double (FP.l2d kk128)), (.double (FP.l2d kk117)), (.double (FP.l2d kk144))])) _
    refine XS.lload X0.here hx rfl (hb hby at_162) rfl ?_
    show Steps p.tables e below (s₁.setTop (mkF m 164 #[.val (.int p1), .val (.int p2), .val (.int p3), .val (.int p4), .val (.int p5), .val (.int (p5 &&& (3 : Int32))), .val (.long kk144), .second, .val (.long kk117), .second, .val (.long kk128), .second, .val (.long kk136), .second, .val (.long (kk128 - kk117)), .second, .unset, .unset, .unset, .unset, .unset, .unset, .unset, .unset, .unset, .unset, .unset] [(.long kk136), (.double (FP.l2d kk128)), (.double (FP.l2d kk117)), (.double (FP.l2d kk144))])) _
    refine XS.l2dS X0.here hx rfl (hb hby at_164) rfl rfl ?_
    show Steps p.tables e below (s₁.setTop (mkF m 165 #[.val (.int p1), .val (.int p2), .val (.int p3), .val (.int p4), .val (.int p5), .val (.int (p5 &&& (3 : Int32))), .val (.long kk144), .second, .val (.long kk117), .second, .val (.long kk128), .second, .val (.long kk136), .second, .val (.long (kk128 - kk117)), .second, .unset, .unset, .unset, .unset, .unset, .unset, .unset, .unset, .unset, .unset, .unset] [(.double (FP.l2d kk136)), (.double (FP.l2d kk128)), (.double (FP.l2d kk117)), (.double (FP.l2d kk144))])) _
    refine st6 _ ?_
    show Steps p.tables e below (T6.setTop (mkF m 168 #[.val (.int p1), .val (.int p2), .val (.int p3), .val (.int p4), .val (.int p5), .val (.int (p5 &&& (3 : Int32))), .val (.long kk144), .second, .val (.long kk117), .second, .val (.long kk128), .second, .val (.long kk136), .second, .val (.long (kk128 - kk117)), .second, .unset, .unset, .unset, .unset, .unset, .unset, .unset, .unset, .unset, .unset, .unset] [(.ref bR)])) _
    refine XS.astore X6.here hx rfl (hb hby at_168) rfl rfl (l' := #[.val (.int p1), .val (.int p2), .val (.int p3), .val (.int p4), .val (.int p5), .val (.int (p5 &&& (3 : Int32))), .val (.long kk144), .second, .val (.long kk117), .second, .val (.long kk128), .second, .val (.long kk136), .second, .val (.long (kk128 - kk117)), .second, .val (.ref bR), .unset, .unset, .unset, .unset, .unset, .unset, .unset, .unset, .unset, .unset]) rfl ?_
    show Steps p.tables e below (T6.setTop (mkF m 170 #[.val (.int p1), .val (.int p2), .val (.int p3), .val (.int p4), .val (.int p5), .val (.int (p5 &&& (3 : Int32))), .val (.long kk144), .second, .val (.long kk117), .second, .val (.long kk128), .second, .val (.long kk136), .second, .val (.long (kk128 - kk117)), .second, .val (.ref bR), .unset, .unset, .unset, .unset, .unset, .unset, .unset, .unset, .unset, .unset] [])) _
    refine XS.lload X6.here hx rfl (hb hby at_170) rfl ?_
    show Steps p.tables e below (T6.setTop (mkF m 172 #[.val (.int p1), .val (.int p2), .val (.int p3), .val (.int p4), .val (.int p5), .val (.int (p5 &&& (3 : Int32))), .val (.long kk144), .second, .val (.long kk117), .second, .val (.long kk128), .second, .val (.long kk136), .second, .val (.long (kk128 - kk117)), .second, .val (.ref bR), .unset, .unset, .unset, .unset, .unset, .unset, .unset, .unset, .unset, .unset] [(.long (kk128 - kk117))])) _
    refine XS.lconst X6.here hx rfl (hb hby at_172) ?_
    show Steps p.tables e below (T6.setTop (mkF m 173 #[.val (.int p1), .val (.int p2), .val (.int p3), .val (.int p4), .val (.int p5), .val (.int (p5 &&& (3 : Int32))), .val (.long kk144), .second, .val (.long kk117), .second, .val (.long kk128), .second, .val (.long kk136), .second, .val (.long (kk128 - kk117)), .second, .val (.ref bR), .unset, .unset, .unset, .unset, .unset, .unset, .unset, .unset, .unset, .unset] [(.long (0 : Int64)), (.long (kk128 - kk117))])) _
    refine XS.lcmp X6.here hx rfl (hb hby at_173) rfl ?_
    show Steps p.tables e below (T6.setTop (mkF m 174 #[.val (.int p1), .val (.int p2), .val (.int p3), .val (.int p4), .val (.int p5), .val (.int (p5 &&& (3 : Int32))), .val (.long kk144), .second, .val (.long kk117), .second, .val (.long kk128), .second, .val (.long kk136), .second, .val (.long (kk128 - kk117)), .second, .val (.ref bR), .unset, .unset, .unset, .unset, .unset, .unset, .unset, .unset, .unset, .unset] [(.int (lcmpW (kk128 - kk117) (0 : Int64)))])) _
    refine XS.ifNo X6.here hx rfl (hb hby at_174) rfl ((if0 _ _).trans (tlt hc174).2.2.2) ?_
    show Steps p.tables e below (T6.setTop (mkF m 177 #[.val (.int p1), .val (.int p2), .val (.int p3), .val (.int p4), .val (.int p5), .val (.int (p5 &&& (3 : Int32))), .val (.long kk144), .second, .val (.long kk117), .second, .val (.long kk128), .second, .val (.long kk136), .second, .val (.long (kk128 - kk117)), .second, .val (.ref bR), .unset, .unset, .unset, .unset, .unset, .unset, .unset, .unset, .unset, .unset] [])) _
    refine XS.lload X6.here hx rfl (hb hby at_177) rfl ?_
    show Steps p.tables e below (T6.setTop (mkF m 179 #[.val (.int p1), .val (.int p2), .val (.int p3), .val (.int p4), .val (.int p5), .val (.int (p5 &&& (3 : Int32))), .val (.long kk144), .second, .val (.long kk117), .second, .val (.long kk128), .second, .val (.long kk136), .second, .val (.long (kk128 - kk117)), .second, .val (.ref bR), .unset, .unset, .unset, .unset, .unset, .unset, .unset, .unset, .unset, .unset] [(.long kk144)])) _
    refine XS.lload X6.here hx rfl (hb hby at_179) rfl ?_
    show Steps p.tables e below (T6.setTop (mkF m 181 #[.val (.int p1), .val (.int p2), .val (.int p3), .val (.int p4), .val (.int p5), .val (.int (p5 &&& (3 : Int32))), .val (.long kk144), .second, .val (.long kk117), .second, .val (.long kk128), .second, .val (.long kk136), .second, .val (.long (kk128 - kk117)), .second, .val (.ref bR), .unset, .unset, .unset, .unset, .unset, .unset, .unset, .unset, .unset, .unset] [(.long kk136), (.long kk144)])) _
    refine XS.lload X6.here hx rfl (hb hby at_181) rfl ?_
    show Steps p.tables e below (T6.setTop (mkF m 183 #[.val (.int p1), .val (.int p2), .val (.int p3), .val (.int p4), .val (.int p5), .val (.int (p5 &&& (3 : Int32))), .val (.long kk144), .second, .val (.long kk117), .second, .val (.long kk128), .second, .val (.long kk136), .second, .val (.long (kk128 - kk117)), .second, .val (.ref bR), .unset, .unset, .unset, .unset, .unset, .unset, .unset, .unset, .unset, .unset] [(.long (kk128 - kk117)), (.long kk136), (.long kk144)])) _
    refine XS.lmul X6.here hx rfl (hb hby at_183) rfl ?_
    show Steps p.tables e below (T6.setTop (mkF m 184 #[.val (.int p1), .val (.int p2), .val (.int p3), .val (.int p4), .val (.int p5), .val (.int (p5 &&& (3 : Int32))), .val (.long kk144), .second, .val (.long kk117), .second, .val (.long kk128), .second, .val (.long kk136), .second, .val (.long (kk128 - kk117)), .second, .val (.ref bR), .unset, .unset, .unset, .unset, .unset, .unset, .unset, .unset, .unset, .unset] [(.long (kk136 * (kk128 - kk117))), (.long kk144)])) _
    refine XS.lcmp X6.here hx rfl (hb hby at_184) rfl ?_
    show Steps p.tables e below (T6.setTop (mkF m 185 #[.val (.int p1), .val (.int p2), .val (.int p3), .val (.int p4), .val (.int p5), .val (.int (p5 &&& (3 : Int32))), .val (.long kk144), .second, .val (.long kk117), .second, .val (.long kk128), .second, .val (.long kk136), .second, .val (.long (kk128 - kk117)), .second, .val (.ref bR), .unset, .unset, .unset, .unset, .unset, .unset, .unset, .unset, .unset, .unset] [(.int (lcmpW kk144 (kk136 * (kk128 - kk117))))])) _
    refine XS.ifNo X6.here hx rfl (hb hby at_185) rfl ((if0 _ _).trans (tlt hc185).2.1) ?_
    show Steps p.tables e below (T6.setTop (mkF m 188 #[.val (.int p1), .val (.int p2), .val (.int p3), .val (.int p4), .val (.int p5), .val (.int (p5 &&& (3 : Int32))), .val (.long kk144), .second, .val (.long kk117), .second, .val (.long kk128), .second, .val (.long kk136), .second, .val (.long (kk128 - kk117)), .second, .val (.ref bR), .unset, .unset, .unset, .unset, .unset, .unset, .unset, .unset, .unset, .unset] [])) _
    refine XS.lload X6.here hx rfl (hb hby at_188) rfl ?_
    show Steps p.tables e below (T6.setTop (mkF m 190 #[.val (.int p1), .val (.int p2), .val (.int p3), .val (.int p4), .val (.int p5), .val (.int (p5 &&& (3 : Int32))), .val (.long kk144), .second, .val (.long kk117), .second, .val (.long kk128), .second, .val (.long kk136), .second, .val (.long (kk128 - kk117)), .second, .val (.ref bR), .unset, .unset, .unset, .unset, .unset, .unset, .unset, .unset, .unset, .unset] [(.long kk144)])) _
    refine XS.lload X6.here hx rfl (hb hby at_190) rfl ?_
    show Steps p.tables e below (T6.setTop (mkF m 192 #[.val (.int p1), .val (.int p2), .val (.int p3), .val (.int p4), .val (.int p5), .val (.int (p5 &&& (3 : Int32))), .val (.long kk144), .second, .val (.long kk117), .second, .val (.long kk128), .second, .val (.long kk136), .second, .val (.long (kk128 - kk117)), .second, .val (.ref bR), .unset, .unset, .unset, .unset, .unset, .unset, .unset, .unset, .unset, .unset] [(.long kk144), (.long kk144)])) _
    refine XS.lmul X6.here hx rfl (hb hby at_192) rfl ?_
    show Steps p.tables e below (T6.setTop (mkF m 193 #[.val (.int p1), .val (.int p2), .val (.int p3), .val (.int p4), .val (.int p5), .val (.int (p5 &&& (3 : Int32))), .val (.long kk144), .second, .val (.long kk117), .second, .val (.long kk128), .second, .val (.long kk136), .second, .val (.long (kk128 - kk117)), .second, .val (.ref bR), .unset, .unset, .unset, .unset, .unset, .unset, .unset, .unset, .unset, .unset] [(.long (kk144 * kk144))])) _
    refine X6.ldc2Long hx hown (mvT hZ (hw _ (List.mem_of_getElem? (i := 23) rfl))) (g := (mkF m 193 #[.val (.int p1), .val (.int p2), .val (.int p3), .val (.int p4), .val (.int p5), .val (.int (p5 &&& (3 : Int32))), .val (.long kk144), .second, .val (.long kk117), .second, .val (.long kk128), .second, .val (.long kk136), .second, .val (.long (kk128 - kk117)), .second, .val (.ref bR), .unset, .unset, .unset, .unset, .unset, .unset, .unset, .unset, .unset, .unset] [(.long (kk144 * kk144))])) rfl (hb hby at_193) _ ?_
    show Steps p.tables e below (T6.setTop (mkF m 196 #[.val (.int p1), .val (.int p2), .val (.int p3), .val (.int p4), .val (.int p5), .val (.int (p5 &&& (3 : Int32))), .val (.long kk144), .second, .val (.long kk117), .second, .val (.long kk128), .second, .val (.long kk136), .second, .val (.long (kk128 - kk117)), .second, .val (.ref bR), .unset, .unset, .unset, .unset, .unset, .unset, .unset, .unset, .unset, .unset] [(.long (2 : Int64)), (.long (kk144 * kk144))])) _
    refine XS.lload X6.here hx rfl (hb hby at_196) rfl ?_
    show Steps p.tables e below (T6.setTop (mkF m 198 #[.val (.int p1), .val (.int p2), .val (.int p3), .val (.int p4), .val (.int p5), .val (.int (p5 &&& (3 : Int32))), .val (.long kk144), .second, .val (.long kk117), .second, .val (.long kk128), .second, .val (.long kk136), .second, .val (.long (kk128 - kk117)), .second, .val (.ref bR), .unset, .unset, .unset, .unset, .unset, .unset, .unset, .unset, .unset, .unset] [(.long kk136), (.long (2 : Int64)), (.long (kk144 * kk144))])) _
    refine XS.lmul X6.here hx rfl (hb hby at_198) rfl ?_
    show Steps p.tables e below (T6.setTop (mkF m 199 #[.val (.int p1), .val (.int p2), .val (.int p3), .val (.int p4), .val (.int p5), .val (.int (p5 &&& (3 : Int32))), .val (.long kk144), .second, .val (.long kk117), .second, .val (.long kk128), .second, .val (.long kk136), .second, .val (.long (kk128 - kk117)), .second, .val (.ref bR), .unset, .unset, .unset, .unset, .unset, .unset, .unset, .unset, .unset, .unset] [(.long ((2 : Int64) * kk136)), (.long (kk144 * kk144))])) _
    refine XS.lload X6.here hx rfl (hb hby at_199) rfl ?_
    show Steps p.tables e below (T6.setTop (mkF m 201 #[.val (.int p1), .val (.int p2), .val (.int p3), .val (.int p4), .val (.int p5), .val (.int (p5 &&& (3 : Int32))), .val (.long kk144), .second, .val (.long kk117), .second, .val (.long kk128), .second, .val (.long kk136), .second, .val (.long (kk128 - kk117)), .second, .val (.ref bR), .unset, .unset, .unset, .unset, .unset, .unset, .unset, .unset, .unset, .unset] [(.long (kk128 - kk117)), (.long ((2 : Int64) * kk136)), (.long (kk144 * kk144))])) _
    refine XS.lmul X6.here hx rfl (hb hby at_201) rfl ?_
    show Steps p.tables e below (T6.setTop (mkF m 202 #[.val (.int p1), .val (.int p2), .val (.int p3), .val (.int p4), .val (.int p5), .val (.int (p5 &&& (3 : Int32))), .val (.long kk144), .second, .val (.long kk117), .second, .val (.long kk128), .second, .val (.long kk136), .second, .val (.long (kk128 - kk117)), .second, .val (.ref bR), .unset, .unset, .unset, .unset, .unset, .unset, .unset, .unset, .unset, .unset] [(.long (((2 : Int64) * kk136) * (kk128 - kk117))), (.long (kk144 * kk144))])) _
    refine XS.ladd X6.here hx rfl (hb hby at_202) rfl ?_
    show Steps p.tables e below (T6.setTop (mkF m 203 #[.val (.int p1), .val (.int p2), .val (.int p3), .val (.int p4), .val (.int p5), .val (.int (p5 &&& (3 : Int32))), .val (.long kk144), .second, .val (.long kk117), .second, .val (.long kk128), .second, .val (.long kk136), .second, .val (.long (kk128 - kk117)), .second, .val (.ref bR), .unset, .unset, .unset, .unset, .unset, .unset, .unset, .unset, .unset, .unset] [(.long ((kk144 * kk144) + (((2 : Int64) * kk136) * (kk128 - kk117))))])) _
    refine XS.lstore X6.here hx rfl (hb hby at_203) rfl (l' := #[.val (.int p1), .val (.int p2), .val (.int p3), .val (.int p4), .val (.int p5), .val (.int (p5 &&& (3 : Int32))), .val (.long kk144), .second, .val (.long kk117), .second, .val (.long kk128), .second, .val (.long kk136), .second, .val (.long (kk128 - kk117)), .second, .val (.ref bR), .val (.long ((kk144 * kk144) + (((2 : Int64) * kk136) * (kk128 - kk117)))), .second, .unset, .unset, .unset, .unset, .unset, .unset, .unset, .unset]) rfl ?_
    show Steps p.tables e below (T6.setTop (mkF m 205 #[.val (.int p1), .val (.int p2), .val (.int p3), .val (.int p4), .val (.int p5), .val (.int (p5 &&& (3 : Int32))), .val (.long kk144), .second, .val (.long kk117), .second, .val (.long kk128), .second, .val (.long kk136), .second, .val (.long (kk128 - kk117)), .second, .val (.ref bR), .val (.long ((kk144 * kk144) + (((2 : Int64) * kk136) * (kk128 - kk117)))), .second, .unset, .unset, .unset, .unset, .unset, .unset, .unset, .unset] [])) _
    rw [hk203]
    show Steps p.tables e below (T6.setTop (mkF m 205 #[.val (.int p1), .val (.int p2), .val (.int p3), .val (.int p4), .val (.int p5), .val (.int (p5 &&& (3 : Int32))), .val (.long kk144), .second, .val (.long kk117), .second, .val (.long kk128), .second, .val (.long kk136), .second, .val (.long (kk128 - kk117)), .second, .val (.ref bR), .val (.long kk203), .second, .unset, .unset, .unset, .unset, .unset, .unset, .unset, .unset] [])) _
    refine X6.ldc2Long hx hown (mvT hZ (hw _ (List.mem_of_getElem? (i := 23) rfl))) (g := (mkF m 205 #[.val (.int p1), .val (.int p2), .val (.int p3), .val (.int p4), .val (.int p5), .val (.int (p5 &&& (3 : Int32))), .val (.long kk144), .second, .val (.long kk117), .second, .val (.long kk128), .second, .val (.long kk136), .second, .val (.long (kk128 - kk117)), .second, .val (.ref bR), .val (.long kk203), .second, .unset, .unset, .unset, .unset, .unset, .unset, .unset, .unset] [])) rfl (hb hby at_205) _ ?_
    show Steps p.tables e below (T6.setTop (mkF m 208 #[.val (.int p1), .val (.int p2), .val (.int p3), .val (.int p4), .val (.int p5), .val (.int (p5 &&& (3 : Int32))), .val (.long kk144), .second, .val (.long kk117), .second, .val (.long kk128), .second, .val (.long kk136), .second, .val (.long (kk128 - kk117)), .second, .val (.ref bR), .val (.long kk203), .second, .unset, .unset, .unset, .unset, .unset, .unset, .unset, .unset] [(.long (2 : Int64))])) _
    refine XS.lload X6.here hx rfl (hb hby at_208) rfl ?_
    show Steps p.tables e below (T6.setTop (mkF m 210 #[.val (.int p1), .val (.int p2), .val (.int p3), .val (.int p4), .val (.int p5), .val (.int (p5 &&& (3 : Int32))), .val (.long kk144), .second, .val (.long kk117), .second, .val (.long kk128), .second, .val (.long kk136), .second, .val (.long (kk128 - kk117)), .second, .val (.ref bR), .val (.long kk203), .second, .unset, .unset, .unset, .unset, .unset, .unset, .unset, .unset] [(.long kk136), (.long (2 : Int64))])) _
    refine XS.lmul X6.here hx rfl (hb hby at_210) rfl ?_
    show Steps p.tables e below (T6.setTop (mkF m 211 #[.val (.int p1), .val (.int p2), .val (.int p3), .val (.int p4), .val (.int p5), .val (.int (p5 &&& (3 : Int32))), .val (.long kk144), .second, .val (.long kk117), .second, .val (.long kk128), .second, .val (.long kk136), .second, .val (.long (kk128 - kk117)), .second, .val (.ref bR), .val (.long kk203), .second, .unset, .unset, .unset, .unset, .unset, .unset, .unset, .unset] [(.long ((2 : Int64) * kk136))])) _
    refine XS.lload X6.here hx rfl (hb hby at_211) rfl ?_
    show Steps p.tables e below (T6.setTop (mkF m 213 #[.val (.int p1), .val (.int p2), .val (.int p3), .val (.int p4), .val (.int p5), .val (.int (p5 &&& (3 : Int32))), .val (.long kk144), .second, .val (.long kk117), .second, .val (.long kk128), .second, .val (.long kk136), .second, .val (.long (kk128 - kk117)), .second, .val (.ref bR), .val (.long kk203), .second, .unset, .unset, .unset, .unset, .unset, .unset, .unset, .unset] [(.long (kk128 - kk117)), (.long ((2 : Int64) * kk136))])) _
    refine XS.lmul X6.here hx rfl (hb hby at_213) rfl ?_
    show Steps p.tables e below (T6.setTop (mkF m 214 #[.val (.int p1), .val (.int p2), .val (.int p3), .val (.int p4), .val (.int p5), .val (.int (p5 &&& (3 : Int32))), .val (.long kk144), .second, .val (.long kk117), .second, .val (.long kk128), .second, .val (.long kk136), .second, .val (.long (kk128 - kk117)), .second, .val (.ref bR), .val (.long kk203), .second, .unset, .unset, .unset, .unset, .unset, .unset, .unset, .unset] [(.long (((2 : Int64) * kk136) * (kk128 - kk117)))])) _
    refine XS.lload X6.here hx rfl (hb hby at_214) rfl ?_
    show Steps p.tables e below (T6.setTop (mkF m 216 #[.val (.int p1), .val (.int p2), .val (.int p3), .val (.int p4), .val (.int p5), .val (.int (p5 &&& (3 : Int32))), .val (.long kk144), .second, .val (.long kk117), .second, .val (.long kk128), .second, .val (.long kk136), .second, .val (.long (kk128 - kk117)), .second, .val (.ref bR), .val (.long kk203), .second, .unset, .unset, .unset, .unset, .unset, .unset, .unset, .unset] [(.long kk128), (.long (((2 : Int64) * kk136) * (kk128 - kk117)))])) _
    refine XS.lmul X6.here hx rfl (hb hby at_216) rfl ?_
    show Steps p.tables e below (T6.setTop (mkF m 217 #[.val (.int p1), .val (.int p2), .val (.int p3), .val (.int p4), .val (.int p5), .val (.int (p5 &&& (3 : Int32))), .val (.long kk144), .second, .val (.long kk117), .second, .val (.long kk128), .second, .val (.long kk136), .second, .val (.long (kk128 - kk117)), .second, .val (.ref bR), .val (.long kk203), .second, .unset, .unset, .unset, .unset, .unset, .unset, .unset, .unset] [(.long ((((2 : Int64) * kk136) * (kk128 - kk117)) * kk128))])) _
    refine XS.lstore X6.here hx rfl (hb hby at_217) rfl (l' := #[.val (.int p1), .val (.int p2), .val (.int p3), .val (.int p4), .val (.int p5), .val (.int (p5 &&& (3 : Int32))), .val (.long kk144), .second, .val (.long kk117), .second, .val (.long kk128), .second, .val (.long kk136), .second, .val (.long (kk128 - kk117)), .second, .val (.ref bR), .val (.long kk203), .second, .val (.long ((((2 : Int64) * kk136) * (kk128 - kk117)) * kk128)), .second, .unset, .unset, .unset, .unset, .unset, .unset]) rfl ?_
    show Steps p.tables e below (T6.setTop (mkF m 219 #[.val (.int p1), .val (.int p2), .val (.int p3), .val (.int p4), .val (.int p5), .val (.int (p5 &&& (3 : Int32))), .val (.long kk144), .second, .val (.long kk117), .second, .val (.long kk128), .second, .val (.long kk136), .second, .val (.long (kk128 - kk117)), .second, .val (.ref bR), .val (.long kk203), .second, .val (.long ((((2 : Int64) * kk136) * (kk128 - kk117)) * kk128)), .second, .unset, .unset, .unset, .unset, .unset, .unset] [])) _
    rw [hk217]
    show Steps p.tables e below (T6.setTop (mkF m 219 #[.val (.int p1), .val (.int p2), .val (.int p3), .val (.int p4), .val (.int p5), .val (.int (p5 &&& (3 : Int32))), .val (.long kk144), .second, .val (.long kk117), .second, .val (.long kk128), .second, .val (.long kk136), .second, .val (.long (kk128 - kk117)), .second, .val (.ref bR), .val (.long kk203), .second, .val (.long kk217), .second, .unset, .unset, .unset, .unset, .unset, .unset] [])) _
    refine XS.lload X6.here hx rfl (hb hby at_219) rfl ?_
    show Steps p.tables e below (T6.setTop (mkF m 221 #[.val (.int p1), .val (.int p2), .val (.int p3), .val (.int p4), .val (.int p5), .val (.int (p5 &&& (3 : Int32))), .val (.long kk144), .second, .val (.long kk117), .second, .val (.long kk128), .second, .val (.long kk136), .second, .val (.long (kk128 - kk117)), .second, .val (.ref bR), .val (.long kk203), .second, .val (.long kk217), .second, .unset, .unset, .unset, .unset, .unset, .unset] [(.long kk144)])) _
    refine XS.lload X6.here hx rfl (hb hby at_221) rfl ?_
    show Steps p.tables e below (T6.setTop (mkF m 223 #[.val (.int p1), .val (.int p2), .val (.int p3), .val (.int p4), .val (.int p5), .val (.int (p5 &&& (3 : Int32))), .val (.long kk144), .second, .val (.long kk117), .second, .val (.long kk128), .second, .val (.long kk136), .second, .val (.long (kk128 - kk117)), .second, .val (.ref bR), .val (.long kk203), .second, .val (.long kk217), .second, .unset, .unset, .unset, .unset, .unset, .unset] [(.long kk144), (.long kk144)])) _
    refine XS.lmul X6.here hx rfl (hb hby at_223) rfl ?_
    show Steps p.tables e below (T6.setTop (mkF m 224 #[.val (.int p1), .val (.int p2), .val (.int p3), .val (.int p4), .val (.int p5), .val (.int (p5 &&& (3 : Int32))), .val (.long kk144), .second, .val (.long kk117), .second, .val (.long kk128), .second, .val (.long kk136), .second, .val (.long (kk128 - kk117)), .second, .val (.ref bR), .val (.long kk203), .second, .val (.long kk217), .second, .unset, .unset, .unset, .unset, .unset, .unset] [(.long (kk144 * kk144))])) _
    refine XS.lneg X6.here hx rfl (hb hby at_224) rfl ?_
    show Steps p.tables e below (T6.setTop (mkF m 225 #[.val (.int p1), .val (.int p2), .val (.int p3), .val (.int p4), .val (.int p5), .val (.int (p5 &&& (3 : Int32))), .val (.long kk144), .second, .val (.long kk117), .second, .val (.long kk128), .second, .val (.long kk136), .second, .val (.long (kk128 - kk117)), .second, .val (.ref bR), .val (.long kk203), .second, .val (.long kk217), .second, .unset, .unset, .unset, .unset, .unset, .unset] [(.long (-(kk144 * kk144)))])) _
    refine XS.l2dS X6.here hx rfl (hb hby at_225) rfl rfl ?_
    show Steps p.tables e below (T6.setTop (mkF m 226 #[.val (.int p1), .val (.int p2), .val (.int p3), .val (.int p4), .val (.int p5), .val (.int (p5 &&& (3 : Int32))), .val (.long kk144), .second, .val (.long kk117), .second, .val (.long kk128), .second, .val (.long kk136), .second, .val (.long (kk128 - kk117)), .second, .val (.ref bR), .val (.long kk203), .second, .val (.long kk217), .second, .unset, .unset, .unset, .unset, .unset, .unset] [(.double (FP.l2d (-(kk144 * kk144))))])) _
    refine X6.ldc2Long hx hown (mvT hZ (hw _ (List.mem_of_getElem? (i := 23) rfl))) (g := (mkF m 226 #[.val (.int p1), .val (.int p2), .val (.int p3), .val (.int p4), .val (.int p5), .val (.int (p5 &&& (3 : Int32))), .val (.long kk144), .second, .val (.long kk117), .second, .val (.long kk128), .second, .val (.long kk136), .second, .val (.long (kk128 - kk117)), .second, .val (.ref bR), .val (.long kk203), .second, .val (.long kk217), .second, .unset, .unset, .unset, .unset, .unset, .unset] [(.double (FP.l2d (-(kk144 * kk144))))])) rfl (hb hby at_226) _ ?_
    show Steps p.tables e below (T6.setTop (mkF m 229 #[.val (.int p1), .val (.int p2), .val (.int p3), .val (.int p4), .val (.int p5), .val (.int (p5 &&& (3 : Int32))), .val (.long kk144), .second, .val (.long kk117), .second, .val (.long kk128), .second, .val (.long kk136), .second, .val (.long (kk128 - kk117)), .second, .val (.ref bR), .val (.long kk203), .second, .val (.long kk217), .second, .unset, .unset, .unset, .unset, .unset, .unset] [(.long (2 : Int64)), (.double (FP.l2d (-(kk144 * kk144))))])) _
    refine XS.lload X6.here hx rfl (hb hby at_229) rfl ?_
    show Steps p.tables e below (T6.setTop (mkF m 231 #[.val (.int p1), .val (.int p2), .val (.int p3), .val (.int p4), .val (.int p5), .val (.int (p5 &&& (3 : Int32))), .val (.long kk144), .second, .val (.long kk117), .second, .val (.long kk128), .second, .val (.long kk136), .second, .val (.long (kk128 - kk117)), .second, .val (.ref bR), .val (.long kk203), .second, .val (.long kk217), .second, .unset, .unset, .unset, .unset, .unset, .unset] [(.long kk136), (.long (2 : Int64)), (.double (FP.l2d (-(kk144 * kk144))))])) _
    refine XS.lmul X6.here hx rfl (hb hby at_231) rfl ?_
    show Steps p.tables e below (T6.setTop (mkF m 232 #[.val (.int p1), .val (.int p2), .val (.int p3), .val (.int p4), .val (.int p5), .val (.int (p5 &&& (3 : Int32))), .val (.long kk144), .second, .val (.long kk117), .second, .val (.long kk128), .second, .val (.long kk136), .second, .val (.long (kk128 - kk117)), .second, .val (.ref bR), .val (.long kk203), .second, .val (.long kk217), .second, .unset, .unset, .unset, .unset, .unset, .unset] [(.long ((2 : Int64) * kk136)), (.double (FP.l2d (-(kk144 * kk144))))])) _
    refine XS.lload X6.here hx rfl (hb hby at_232) rfl ?_
    show Steps p.tables e below (T6.setTop (mkF m 234 #[.val (.int p1), .val (.int p2), .val (.int p3), .val (.int p4), .val (.int p5), .val (.int (p5 &&& (3 : Int32))), .val (.long kk144), .second, .val (.long kk117), .second, .val (.long kk128), .second, .val (.long kk136), .second, .val (.long (kk128 - kk117)), .second, .val (.ref bR), .val (.long kk203), .second, .val (.long kk217), .second, .unset, .unset, .unset, .unset, .unset, .unset] [(.long (kk128 - kk117)), (.long ((2 : Int64) * kk136)), (.double (FP.l2d (-(kk144 * kk144))))])) _
    refine XS.lmul X6.here hx rfl (hb hby at_234) rfl ?_
    show Steps p.tables e below (T6.setTop (mkF m 235 #[.val (.int p1), .val (.int p2), .val (.int p3), .val (.int p4), .val (.int p5), .val (.int (p5 &&& (3 : Int32))), .val (.long kk144), .second, .val (.long kk117), .second, .val (.long kk128), .second, .val (.long kk136), .second, .val (.long (kk128 - kk117)), .second, .val (.ref bR), .val (.long kk203), .second, .val (.long kk217), .second, .unset, .unset, .unset, .unset, .unset, .unset] [(.long (((2 : Int64) * kk136) * (kk128 - kk117))), (.double (FP.l2d (-(kk144 * kk144))))])) _
    refine XS.lload X6.here hx rfl (hb hby at_235) rfl ?_
    show Steps p.tables e below (T6.setTop (mkF m 237 #[.val (.int p1), .val (.int p2), .val (.int p3), .val (.int p4), .val (.int p5), .val (.int (p5 &&& (3 : Int32))), .val (.long kk144), .second, .val (.long kk117), .second, .val (.long kk128), .second, .val (.long kk136), .second, .val (.long (kk128 - kk117)), .second, .val (.ref bR), .val (.long kk203), .second, .val (.long kk217), .second, .unset, .unset, .unset, .unset, .unset, .unset] [(.long (kk128 - kk117)), (.long (((2 : Int64) * kk136) * (kk128 - kk117))), (.double (FP.l2d (-(kk144 * kk144))))])) _
    refine XS.lmul X6.here hx rfl (hb hby at_237) rfl ?_
    show Steps p.tables e below (T6.setTop (mkF m 238 #[.val (.int p1), .val (.int p2), .val (.int p3), .val (.int p4), .val (.int p5), .val (.int (p5 &&& (3 : Int32))), .val (.long kk144), .second, .val (.long kk117), .second, .val (.long kk128), .second, .val (.long kk136), .second, .val (.long (kk128 - kk117)), .second, .val (.ref bR), .val (.long kk203), .second, .val (.long kk217), .second, .unset, .unset, .unset, .unset, .unset, .unset] [(.long ((((2 : Int64) * kk136) * (kk128 - kk117)) * (kk128 - kk117))), (.double (FP.l2d (-(kk144 * kk144))))])) _
    refine XS.l2dS X6.here hx rfl (hb hby at_238) rfl rfl ?_
    show Steps p.tables e below (T6.setTop (mkF m 239 #[.val (.int p1), .val (.int p2), .val (.int p3), .val (.int p4), .val (.int p5), .val (.int (p5 &&& (3 : Int32))), .val (.long kk144), .second, .val (.long kk117), .second, .val (.long kk128), .second, .val (.long kk136), .second, .val (.long (kk128 - kk117)), .second, .val (.ref bR), .val (.long kk203), .second, .val (.long kk217), .second, .unset, .unset, .unset, .unset, .unset, .unset] [(.double (FP.l2d ((((2 : Int64) * kk136) * (kk128 - kk117)) * (kk128 - kk117)))), (.double (FP.l2d (-(kk144 * kk144))))])) _
    refine XS.ddivS X6.here hx rfl (hb hby at_239) rfl hn239 hv239 ?_
    show Steps p.tables e below (T6.setTop (mkF m 240 #[.val (.int p1), .val (.int p2), .val (.int p3), .val (.int p4), .val (.int p5), .val (.int (p5 &&& (3 : Int32))), .val (.long kk144), .second, .val (.long kk117), .second, .val (.long kk128), .second, .val (.long kk136), .second, .val (.long (kk128 - kk117)), .second, .val (.ref bR), .val (.long kk203), .second, .val (.long kk217), .second, .unset, .unset, .unset, .unset, .unset, .unset] [(.double r239)])) _
    refine XS.dstore X6.here hx rfl (hb hby at_240) rfl (l' := #[.val (.int p1), .val (.int p2), .val (.int p3), .val (.int p4), .val (.int p5), .val (.int (p5 &&& (3 : Int32))), .val (.long kk144), .second, .val (.long kk117), .second, .val (.long kk128), .second, .val (.long kk136), .second, .val (.long (kk128 - kk117)), .second, .val (.ref bR), .val (.long kk203), .second, .val (.long kk217), .second, .val (.double r239), .second, .unset, .unset, .unset, .unset]) rfl ?_
    show Steps p.tables e below (T6.setTop (mkF m 242 #[.val (.int p1), .val (.int p2), .val (.int p3), .val (.int p4), .val (.int p5), .val (.int (p5 &&& (3 : Int32))), .val (.long kk144), .second, .val (.long kk117), .second, .val (.long kk128), .second, .val (.long kk136), .second, .val (.long (kk128 - kk117)), .second, .val (.ref bR), .val (.long kk203), .second, .val (.long kk217), .second, .val (.double r239), .second, .unset, .unset, .unset, .unset] [])) _
    refine XS.goto X6.here hx rfl (pc0 := 242) (pc' := 281) rfl (hb hby at_242) (by decide) (by decide) ?_
    show Steps p.tables e below (T6.setTop (mkF m 281 #[.val (.int p1), .val (.int p2), .val (.int p3), .val (.int p4), .val (.int p5), .val (.int (p5 &&& (3 : Int32))), .val (.long kk144), .second, .val (.long kk117), .second, .val (.long kk128), .second, .val (.long kk136), .second, .val (.long (kk128 - kk117)), .second, .val (.ref bR), .val (.long kk203), .second, .val (.long kk217), .second, .val (.double r239), .second, .unset, .unset, .unset, .unset] [])) _
    refine XS.lload X6.here hx rfl (hb hby at_281) rfl ?_
    show Steps p.tables e below (T6.setTop (mkF m 283 #[.val (.int p1), .val (.int p2), .val (.int p3), .val (.int p4), .val (.int p5), .val (.int (p5 &&& (3 : Int32))), .val (.long kk144), .second, .val (.long kk117), .second, .val (.long kk128), .second, .val (.long kk136), .second, .val (.long (kk128 - kk117)), .second, .val (.ref bR), .val (.long kk203), .second, .val (.long kk217), .second, .val (.double r239), .second, .unset, .unset, .unset, .unset] [(.long kk203)])) _
    refine XS.l2dS X6.here hx rfl (hb hby at_283) rfl rfl ?_
    show Steps p.tables e below (T6.setTop (mkF m 284 #[.val (.int p1), .val (.int p2), .val (.int p3), .val (.int p4), .val (.int p5), .val (.int (p5 &&& (3 : Int32))), .val (.long kk144), .second, .val (.long kk117), .second, .val (.long kk128), .second, .val (.long kk136), .second, .val (.long (kk128 - kk117)), .second, .val (.ref bR), .val (.long kk203), .second, .val (.long kk217), .second, .val (.double r239), .second, .unset, .unset, .unset, .unset] [(.double (FP.l2d kk203))])) _
    refine XS.lload X6.here hx rfl (hb hby at_284) rfl ?_
    show Steps p.tables e below (T6.setTop (mkF m 286 #[.val (.int p1), .val (.int p2), .val (.int p3), .val (.int p4), .val (.int p5), .val (.int (p5 &&& (3 : Int32))), .val (.long kk144), .second, .val (.long kk117), .second, .val (.long kk128), .second, .val (.long kk136), .second, .val (.long (kk128 - kk117)), .second, .val (.ref bR), .val (.long kk203), .second, .val (.long kk217), .second, .val (.double r239), .second, .unset, .unset, .unset, .unset] [(.long kk217), (.double (FP.l2d kk203))])) _
    refine XS.l2dS X6.here hx rfl (hb hby at_286) rfl rfl ?_
    show Steps p.tables e below (T6.setTop (mkF m 287 #[.val (.int p1), .val (.int p2), .val (.int p3), .val (.int p4), .val (.int p5), .val (.int (p5 &&& (3 : Int32))), .val (.long kk144), .second, .val (.long kk117), .second, .val (.long kk128), .second, .val (.long kk136), .second, .val (.long (kk128 - kk117)), .second, .val (.ref bR), .val (.long kk203), .second, .val (.long kk217), .second, .val (.double r239), .second, .unset, .unset, .unset, .unset] [(.double (FP.l2d kk217)), (.double (FP.l2d kk203))])) _
    refine XS.ddivS X6.here hx rfl (hb hby at_287) rfl hn287 hv287 ?_
    show Steps p.tables e below (T6.setTop (mkF m 288 #[.val (.int p1), .val (.int p2), .val (.int p3), .val (.int p4), .val (.int p5), .val (.int (p5 &&& (3 : Int32))), .val (.long kk144), .second, .val (.long kk117), .second, .val (.long kk128), .second, .val (.long kk136), .second, .val (.long (kk128 - kk117)), .second, .val (.ref bR), .val (.long kk203), .second, .val (.long kk217), .second, .val (.double r239), .second, .unset, .unset, .unset, .unset] [(.double r287)])) _
    refine XS.dstore X6.here hx rfl (hb hby at_288) rfl (l' := #[.val (.int p1), .val (.int p2), .val (.int p3), .val (.int p4), .val (.int p5), .val (.int (p5 &&& (3 : Int32))), .val (.long kk144), .second, .val (.long kk117), .second, .val (.long kk128), .second, .val (.long kk136), .second, .val (.long (kk128 - kk117)), .second, .val (.ref bR), .val (.long kk203), .second, .val (.long kk217), .second, .val (.double r239), .second, .val (.double r287), .second, .unset, .unset]) rfl ?_
    show Steps p.tables e below (T6.setTop (mkF m 290 #[.val (.int p1), .val (.int p2), .val (.int p3), .val (.int p4), .val (.int p5), .val (.int (p5 &&& (3 : Int32))), .val (.long kk144), .second, .val (.long kk117), .second, .val (.long kk128), .second, .val (.long kk136), .second, .val (.long (kk128 - kk117)), .second, .val (.ref bR), .val (.long kk203), .second, .val (.long kk217), .second, .val (.double r239), .second, .val (.double r287), .second, .unset, .unset] [])) _
    refine XS.dload X6.here hx rfl (hb hby at_290) rfl ?_
    show Steps p.tables e below (T6.setTop (mkF m 292 #[.val (.int p1), .val (.int p2), .val (.int p3), .val (.int p4), .val (.int p5), .val (.int (p5 &&& (3 : Int32))), .val (.long kk144), .second, .val (.long kk117), .second, .val (.long kk128), .second, .val (.long kk136), .second, .val (.long (kk128 - kk117)), .second, .val (.ref bR), .val (.long kk203), .second, .val (.long kk217), .second, .val (.double r239), .second, .val (.double r287), .second, .unset, .unset] [(.double r239)])) _
    refine XS.dload X6.here hx rfl (hb hby at_292) rfl ?_
    show Steps p.tables e below (T6.setTop (mkF m 294 #[.val (.int p1), .val (.int p2), .val (.int p3), .val (.int p4), .val (.int p5), .val (.int (p5 &&& (3 : Int32))), .val (.long kk144), .second, .val (.long kk117), .second, .val (.long kk128), .second, .val (.long kk136), .second, .val (.long (kk128 - kk117)), .second, .val (.ref bR), .val (.long kk203), .second, .val (.long kk217), .second, .val (.double r239), .second, .val (.double r287), .second, .unset, .unset] [(.double r287), (.double r239)])) _
    refine XS.dsubS X6.here hx rfl (hb hby at_294) rfl hn294 hv294 ?_
    show Steps p.tables e below (T6.setTop (mkF m 295 #[.val (.int p1), .val (.int p2), .val (.int p3), .val (.int p4), .val (.int p5), .val (.int (p5 &&& (3 : Int32))), .val (.long kk144), .second, .val (.long kk117), .second, .val (.long kk128), .second, .val (.long kk136), .second, .val (.long (kk128 - kk117)), .second, .val (.ref bR), .val (.long kk203), .second, .val (.long kk217), .second, .val (.double r239), .second, .val (.double r287), .second, .unset, .unset] [(.double r294)])) _
    refine XS.lload X6.here hx rfl (hb hby at_295) rfl ?_
    show Steps p.tables e below (T6.setTop (mkF m 297 #[.val (.int p1), .val (.int p2), .val (.int p3), .val (.int p4), .val (.int p5), .val (.int (p5 &&& (3 : Int32))), .val (.long kk144), .second, .val (.long kk117), .second, .val (.long kk128), .second, .val (.long kk136), .second, .val (.long (kk128 - kk117)), .second, .val (.ref bR), .val (.long kk203), .second, .val (.long kk217), .second, .val (.double r239), .second, .val (.double r287), .second, .unset, .unset] [(.long kk128), (.double r294)])) _
    refine XS.l2dS X6.here hx rfl (hb hby at_297) rfl rfl ?_
    show Steps p.tables e below (T6.setTop (mkF m 298 #[.val (.int p1), .val (.int p2), .val (.int p3), .val (.int p4), .val (.int p5), .val (.int (p5 &&& (3 : Int32))), .val (.long kk144), .second, .val (.long kk117), .second, .val (.long kk128), .second, .val (.long kk136), .second, .val (.long (kk128 - kk117)), .second, .val (.ref bR), .val (.long kk203), .second, .val (.long kk217), .second, .val (.double r239), .second, .val (.double r287), .second, .unset, .unset] [(.double (FP.l2d kk128)), (.double r294)])) _
    refine XS.ddivS X6.here hx rfl (hb hby at_298) rfl hn298 hv298 ?_
    show Steps p.tables e below (T6.setTop (mkF m 299 #[.val (.int p1), .val (.int p2), .val (.int p3), .val (.int p4), .val (.int p5), .val (.int (p5 &&& (3 : Int32))), .val (.long kk144), .second, .val (.long kk117), .second, .val (.long kk128), .second, .val (.long kk136), .second, .val (.long (kk128 - kk117)), .second, .val (.ref bR), .val (.long kk203), .second, .val (.long kk217), .second, .val (.double r239), .second, .val (.double r287), .second, .unset, .unset] [(.double r298)])) _
    refine XS.dstore X6.here hx rfl (hb hby at_299) rfl (l' := #[.val (.int p1), .val (.int p2), .val (.int p3), .val (.int p4), .val (.int p5), .val (.int (p5 &&& (3 : Int32))), .val (.long kk144), .second, .val (.long kk117), .second, .val (.long kk128), .second, .val (.long kk136), .second, .val (.long (kk128 - kk117)), .second, .val (.ref bR), .val (.long kk203), .second, .val (.long kk217), .second, .val (.double r239), .second, .val (.double r287), .second, .val (.double r298), .second]) rfl ?_
    show Steps p.tables e below (T6.setTop (mkF m 301 #[.val (.int p1), .val (.int p2), .val (.int p3), .val (.int p4), .val (.int p5), .val (.int (p5 &&& (3 : Int32))), .val (.long kk144), .second, .val (.long kk117), .second, .val (.long kk128), .second, .val (.long kk136), .second, .val (.long (kk128 - kk117)), .second, .val (.ref bR), .val (.long kk203), .second, .val (.long kk217), .second, .val (.double r239), .second, .val (.double r287), .second, .val (.double r298), .second] [])) _
    refine XS.aload X6.here hx rfl (hb hby at_301) rfl rfl ?_
    show Steps p.tables e below (T6.setTop (mkF m 303 #[.val (.int p1), .val (.int p2), .val (.int p3), .val (.int p4), .val (.int p5), .val (.int (p5 &&& (3 : Int32))), .val (.long kk144), .second, .val (.long kk117), .second, .val (.long kk128), .second, .val (.long kk136), .second, .val (.long (kk128 - kk117)), .second, .val (.ref bR), .val (.long kk203), .second, .val (.long kk217), .second, .val (.double r239), .second, .val (.double r287), .second, .val (.double r298), .second] [(.ref bR)])) _
    refine st7.trans ?_
    show Steps p.tables e below (T7.setTop (mkF m 306 #[.val (.int p1), .val (.int p2), .val (.int p3), .val (.int p4), .val (.int p5), .val (.int (p5 &&& (3 : Int32))), .val (.long kk144), .second, .val (.long kk117), .second, .val (.long kk128), .second, .val (.long kk136), .second, .val (.long (kk128 - kk117)), .second, .val (.ref bR), .val (.long kk203), .second, .val (.long kk217), .second, .val (.double r239), .second, .val (.double r287), .second, .val (.double r298), .second] [(.double tm)])) _
    refine XS.dload X7.here hx rfl (hb hby at_306) rfl ?_
    show Steps p.tables e below (T7.setTop (mkF m 308 #[.val (.int p1), .val (.int p2), .val (.int p3), .val (.int p4), .val (.int p5), .val (.int (p5 &&& (3 : Int32))), .val (.long kk144), .second, .val (.long kk117), .second, .val (.long kk128), .second, .val (.long kk136), .second, .val (.long (kk128 - kk117)), .second, .val (.ref bR), .val (.long kk203), .second, .val (.long kk217), .second, .val (.double r239), .second, .val (.double r287), .second, .val (.double r298), .second] [(.double r287), (.double tm)])) _
    refine XS.dcmpS X7.here hx rfl (hb hby at_308) rfl rfl ?_
    show Steps p.tables e below (T7.setTop (mkF m 309 #[.val (.int p1), .val (.int p2), .val (.int p3), .val (.int p4), .val (.int p5), .val (.int (p5 &&& (3 : Int32))), .val (.long kk144), .second, .val (.long kk117), .second, .val (.long kk128), .second, .val (.long kk136), .second, .val (.long (kk128 - kk117)), .second, .val (.ref bR), .val (.long kk203), .second, .val (.long kk217), .second, .val (.double r239), .second, .val (.double r287), .second, .val (.double r298), .second] [(.int (cmpValue (FP.dcmp tm r287) .l))])) _
    refine XS.ifNo X7.here hx rfl (hb hby at_309) rfl ((if0 _ _).trans (teq hq1).2) ?_
    show Steps p.tables e below (T7.setTop (mkF m 312 #[.val (.int p1), .val (.int p2), .val (.int p3), .val (.int p4), .val (.int p5), .val (.int (p5 &&& (3 : Int32))), .val (.long kk144), .second, .val (.long kk117), .second, .val (.long kk128), .second, .val (.long kk136), .second, .val (.long (kk128 - kk117)), .second, .val (.ref bR), .val (.long kk203), .second, .val (.long kk217), .second, .val (.double r239), .second, .val (.double r287), .second, .val (.double r298), .second] [])) _
    refine XS.aload X7.here hx rfl (hb hby at_312) rfl rfl ?_
    show Steps p.tables e below (T7.setTop (mkF m 314 #[.val (.int p1), .val (.int p2), .val (.int p3), .val (.int p4), .val (.int p5), .val (.int (p5 &&& (3 : Int32))), .val (.long kk144), .second, .val (.long kk117), .second, .val (.long kk128), .second, .val (.long kk136), .second, .val (.long (kk128 - kk117)), .second, .val (.ref bR), .val (.long kk203), .second, .val (.long kk217), .second, .val (.double r239), .second, .val (.double r287), .second, .val (.double r298), .second] [(.ref bR)])) _
    refine st8.trans ?_
    show Steps p.tables e below (T8.setTop (mkF m 317 #[.val (.int p1), .val (.int p2), .val (.int p3), .val (.int p4), .val (.int p5), .val (.int (p5 &&& (3 : Int32))), .val (.long kk144), .second, .val (.long kk117), .second, .val (.long kk128), .second, .val (.long kk136), .second, .val (.long (kk128 - kk117)), .second, .val (.ref bR), .val (.long kk203), .second, .val (.long kk217), .second, .val (.double r239), .second, .val (.double r287), .second, .val (.double r298), .second] [(.double sl)])) _
    refine XS.dload X8.here hx rfl (hb hby at_317) rfl ?_
    show Steps p.tables e below (T8.setTop (mkF m 319 #[.val (.int p1), .val (.int p2), .val (.int p3), .val (.int p4), .val (.int p5), .val (.int (p5 &&& (3 : Int32))), .val (.long kk144), .second, .val (.long kk117), .second, .val (.long kk128), .second, .val (.long kk136), .second, .val (.long (kk128 - kk117)), .second, .val (.ref bR), .val (.long kk203), .second, .val (.long kk217), .second, .val (.double r239), .second, .val (.double r287), .second, .val (.double r298), .second] [(.double r298), (.double sl)])) _
    refine XS.dcmpS X8.here hx rfl (hb hby at_319) rfl rfl ?_
    show Steps p.tables e below (T8.setTop (mkF m 320 #[.val (.int p1), .val (.int p2), .val (.int p3), .val (.int p4), .val (.int p5), .val (.int (p5 &&& (3 : Int32))), .val (.long kk144), .second, .val (.long kk117), .second, .val (.long kk128), .second, .val (.long kk136), .second, .val (.long (kk128 - kk117)), .second, .val (.ref bR), .val (.long kk203), .second, .val (.long kk217), .second, .val (.double r239), .second, .val (.double r287), .second, .val (.double r298), .second] [(.int (cmpValue (FP.dcmp sl r298) .l))])) _
    refine XS.ifNo X8.here hx rfl (hb hby at_320) rfl ((if0 _ _).trans (teq hq2).2) ?_
    show Steps p.tables e below (T8.setTop (mkF m 323 #[.val (.int p1), .val (.int p2), .val (.int p3), .val (.int p4), .val (.int p5), .val (.int (p5 &&& (3 : Int32))), .val (.long kk144), .second, .val (.long kk117), .second, .val (.long kk128), .second, .val (.long kk136), .second, .val (.long (kk128 - kk117)), .second, .val (.ref bR), .val (.long kk203), .second, .val (.long kk217), .second, .val (.double r239), .second, .val (.double r287), .second, .val (.double r298), .second] [])) _
    refine XS.iconst X8.here hx rfl (hb hby at_323) ?_
    show Steps p.tables e below (T8.setTop (mkF m 324 #[.val (.int p1), .val (.int p2), .val (.int p3), .val (.int p4), .val (.int p5), .val (.int (p5 &&& (3 : Int32))), .val (.long kk144), .second, .val (.long kk117), .second, .val (.long kk128), .second, .val (.long kk136), .second, .val (.long (kk128 - kk117)), .second, .val (.ref bR), .val (.long kk203), .second, .val (.long kk217), .second, .val (.double r239), .second, .val (.double r287), .second, .val (.double r298), .second] [(.int (1 : Int32))])) _
    refine XS.goto X8.here hx rfl (pc0 := 324) (pc' := 328) rfl (hb hby at_324) (by decide) (by decide) ?_
    show Steps p.tables e below (T8.setTop (mkF m 328 #[.val (.int p1), .val (.int p2), .val (.int p3), .val (.int p4), .val (.int p5), .val (.int (p5 &&& (3 : Int32))), .val (.long kk144), .second, .val (.long kk117), .second, .val (.long kk128), .second, .val (.long kk136), .second, .val (.long (kk128 - kk117)), .second, .val (.ref bR), .val (.long kk203), .second, .val (.long kk217), .second, .val (.double r239), .second, .val (.double r287), .second, .val (.double r298), .second] [(.int (1 : Int32))])) _
    exact retN X8 hx (t := .boolean) Bd.returns (by simp) (hb hby at_328) hr
  · show QL n0 _ T8.heap _
    exact ⟨rfl, N8⟩
theorem own_two : Dy 2 0 (4611686018427387904 : UInt64) := by
  have h : FP.l2d 2 = (4611686018427387904 : UInt64) := by decide +kernel
  have q := Dy.l2d (i := 2) (by decide)
  rw [h] at q; exact q
theorem own_p0 : ((2 ^ 0 : Nat) : Int) = 1 := rfl
theorem own_p1 : ((2 ^ 1 : Nat) : Int) = 2 := rfl
theorem own_p15 : ((2 ^ 15 : Nat) : Int) = 32768 := rfl
theorem own_p22 : ((2 ^ 22 : Nat) : Int) = 4194304 := rfl
theorem own_prod {x y : Int} {X Y : Nat} (hx : x.natAbs ≤ X) (hy : y.natAbs ≤ Y) : (x * y).natAbs ≤ X * Y := by rw [Int.natAbs_mul]; exact Nat.mul_le_mul hx hy
theorem own_negw {w : Int64} (h : 1 ≤ w.toInt) : FP.l2d (-w) = FP.dneg (FP.l2d w) := by
  have q : w ≠ 0 := fun z => by rw [z] at h; exact absurd h (by decide)
  rw [Jvm.FP.dneg_core (own_fin_l2d w).notNaN]
  exact Jvm.FP.Core.l2d_neg q (by omega)
theorem own_tail {s : Int64} {x y : UInt64} (h1 : 1 ≤ s.toInt) (h2 : s.toInt ≤ 2047) (fx : Jvm.FP.Core.DFin x) (ny : Jvm.Free.Fl.NoNaN64 y) : Jvm.Free.Fl.NoNaN64 (FP.dsub x y) ∧ Jvm.Free.Fl.NoNaN64 (FP.ddiv (FP.dsub x y) (FP.l2d s)) := by
  have a := Jvm.Free.Fl.dsub_out' (own_fin64 fx) ny
  have S := Dy.l2d (i := s) (by omega)
  exact ⟨a, Jvm.Free.Fl.ddiv_out a (own_fin64 S.fin) (own_nz64 S.fin (Int.ne_of_gt (S.pos (by omega))))⟩
theorem own_else {q a s w n m : Int64} (q1 : 0 ≤ q.toInt) (q2 : q.toInt ≤ 2097152) (a1 : 0 ≤ a.toInt) (a2 : a.toInt ≤ 2047) (s1 : 1 ≤ s.toInt) (s2 : s.toInt ≤ 2047) (w1 : 1 ≤ w.toInt) (w2 : w.toInt ≤ 1024)
    (en : n.toInt = 2 * q.toInt - (s.toInt - a.toInt) * w.toInt + 2) (em : m.toInt = 2 * s.toInt) (pos : 0 < n.toInt) :
    Dy (s.toInt - a.toInt) 0 (FP.dsub (FP.l2d s) (FP.l2d a)) ∧
    Jvm.Free.Fl.NoNaN64 (FP.dmul (FP.dsub (FP.l2d s) (FP.l2d a)) (FP.l2d w)) ∧
    Jvm.Free.Fl.NoNaN64 (FP.ddiv (FP.dmul (FP.dsub (FP.l2d s) (FP.l2d a)) (FP.l2d w)) (4611686018427387904 : UInt64)) ∧
    Jvm.Free.Fl.NoNaN64 (FP.dsub (FP.l2d q) (FP.ddiv (FP.dmul (FP.dsub (FP.l2d s) (FP.l2d a)) (FP.l2d w)) (4611686018427387904 : UInt64))) ∧
    Jvm.Free.Fl.NoNaN64 (FP.dadd (FP.dsub (FP.l2d q) (FP.ddiv (FP.dmul (FP.dsub (FP.l2d s) (FP.l2d a)) (FP.l2d w)) (4611686018427387904 : UInt64))) FP.dconst1) ∧
    Jvm.Free.Fl.NoNaN64 (FP.ddiv (FP.dadd (FP.dsub (FP.l2d q) (FP.ddiv (FP.dmul (FP.dsub (FP.l2d s) (FP.l2d a)) (FP.l2d w)) (4611686018427387904 : UInt64))) FP.dconst1) (FP.l2d s)) ∧
    FP.ddiv (FP.dadd (FP.dsub (FP.l2d q) (FP.ddiv (FP.dmul (FP.dsub (FP.l2d s) (FP.l2d a)) (FP.l2d w)) (4611686018427387904 : UInt64))) FP.dconst1) (FP.l2d s) = FP.ddiv (FP.l2d n) (FP.l2d m) ∧
    Jvm.FP.Core.DFin (FP.ddiv (FP.dneg (FP.l2d w)) (4611686018427387904 : UInt64)) := by
  have Q := Dy.l2d (i := q) (by omega)
  have A := Dy.l2d (i := a) (by omega)
  have S := Dy.l2d (i := s) (by omega)
  have W := Dy.l2d (i := w) (by omega)
  have pr := own_prod (x := s.toInt - a.toInt) (y := w.toInt) (X := 2047) (Y := 1024) (by omega) (by omega)
  have R3 := S.sub A (by omega)
  have R54 := R3.mul W (by decide) (by omega)
  have R58 := R54.div own_two (N := (s.toInt - a.toInt) * w.toInt) (r := 1) (by decide) (by decide) (by decide) (by decide) (by rw [own_p0, own_p1]; omega) (by omega)
  have R59 := (Q.up (m := 2 * q.toInt) (l := 1) 1 rfl (by decide) (by rw [own_p1]; omega)).sub R58 (by omega)
  have R74 := R59.add (Dy.one.up (m := 2) (l := 1) 1 rfl (by decide) (by rw [own_p1]; rfl)) (by omega)
  rw [← en] at R74
  have N := Dy.l2d (i := n) (by omega)
  have M := Dy.l2d (i := m) (by omega)
  have R68 := W.neg.div own_two (N := -w.toInt) (r := 1) (by decide) (by decide) (by decide) (by decide) (by rw [own_p0, own_p1]; omega) (by omega)
  refine ⟨R3, R54.nn, R58.nn, R59.nn, R74.nn, own_nn' (R74.div_nn S (by omega)), ?_, R68.fin⟩
  exact R74.same S N M pos (by omega) pos (by omega) (by decide) (by decide) (by decide) (by decide) (by
    rw [own_p0, own_p1, em, Int.mul_one, Int.mul_one, Int.mul_one, ← Int.mul_assoc, Int.mul_assoc n.toInt 2 s.toInt, Int.mul_comm 2 s.toInt, ← Int.mul_assoc])
theorem own_drain {q a s w n m t u : Int64} {f g : Int} (q1 : 0 ≤ q.toInt) (a1 : 0 ≤ a.toInt) (a2 : a.toInt ≤ 1023) (s2 : s.toInt ≤ 2047)
    (d1 : 1 ≤ s.toInt - a.toInt) (d2 : s.toInt - a.toInt ≤ 128) (w1 : 1 ≤ w.toInt) (w2 : w.toInt ≤ 128) (f1 : 1 ≤ f) (g1 : 1 ≤ g) (hf : (s.toInt - a.toInt) * f = 128) (hg : w.toInt * g = 128)
    (hlt : q.toInt < w.toInt * (s.toInt - a.toInt))
    (en : n.toInt = q.toInt * q.toInt + 2 * w.toInt * (s.toInt - a.toInt)) (em : m.toInt = 2 * w.toInt * (s.toInt - a.toInt) * s.toInt) (et : t.toInt = -(q.toInt * q.toInt)) (eu : u.toInt = 2 * w.toInt * (s.toInt - a.toInt) * (s.toInt - a.toInt)) :
    ∃ r3 r18 r25 r31 r34 r35 r43 r74 : UInt64, FP.dsub (FP.l2d s) (FP.l2d a) = r3 ∧ Jvm.Free.Fl.NoNaN64 (FP.dsub (FP.l2d s) (FP.l2d a)) ∧ (0 : Int32) < cmpValue (FP.dcmp r3 FP.dconst0) .l ∧
      FP.dmul (FP.l2d w) r3 = r18 ∧ Jvm.Free.Fl.NoNaN64 (FP.dmul (FP.l2d w) r3) ∧ cmpValue (FP.dcmp (FP.l2d q) r18) .g < (0 : Int32) ∧
      FP.dmul (FP.l2d q) (FP.l2d q) = r25 ∧ Jvm.Free.Fl.NoNaN64 (FP.dmul (FP.l2d q) (FP.l2d q)) ∧ FP.dmul (4611686018427387904 : UInt64) (FP.l2d w) = r31 ∧ Jvm.Free.Fl.NoNaN64 (FP.dmul (4611686018427387904 : UInt64) (FP.l2d w)) ∧
      FP.dmul r31 r3 = r34 ∧ Jvm.Free.Fl.NoNaN64 (FP.dmul r31 r3) ∧ FP.ddiv r25 r34 = r35 ∧ Jvm.Free.Fl.NoNaN64 (FP.ddiv r25 r34) ∧ FP.ddiv (FP.dneg r35) r3 = r43 ∧ Jvm.Free.Fl.NoNaN64 (FP.ddiv (FP.dneg r35) r3) ∧
      FP.dadd r35 FP.dconst1 = r74 ∧ Jvm.Free.Fl.NoNaN64 (FP.dadd r35 FP.dconst1) ∧ Jvm.Free.Fl.NoNaN64 (FP.ddiv r74 (FP.l2d s)) ∧ FP.ddiv r74 (FP.l2d s) = FP.ddiv (FP.l2d n) (FP.l2d m) ∧
      Jvm.FP.Core.DFin r43 ∧ Jvm.FP.Core.DFin (FP.ddiv (FP.l2d t) (FP.l2d u)) ∧ Jvm.Free.Fl.NoNaN64 (FP.ddiv (FP.l2d t) (FP.l2d u)) ∧ FP.dsub r43 (FP.ddiv r74 (FP.l2d s)) = FP.dsub (FP.ddiv (FP.l2d t) (FP.l2d u)) (FP.ddiv (FP.l2d n) (FP.l2d m)) := by
  have Q := Dy.l2d (i := q) (by have := own_prod (x := w.toInt) (y := s.toInt - a.toInt) (X := 128) (Y := 128) (by omega) (by omega); omega)
  have A := Dy.l2d (i := a) (by omega)
  have S := Dy.l2d (i := s) (by omega)
  have W := Dy.l2d (i := w) (by omega)
  have R3 := S.sub A (by omega)
  have s1 : 1 ≤ s.toInt := by omega
  generalize hD : s.toInt - a.toInt = D at *
  generalize hW : w.toInt = V at *
  generalize hQ : q.toInt = X at *
  generalize hS : s.toInt = Y at *
  have VD : (V * D).natAbs ≤ 128 * 128 := own_prod (by omega) (by omega)
  have XX : (X * X).natAbs ≤ 16384 * 16384 := own_prod (by omega) (by omega)
  have XX0 : 0 ≤ X * X := Int.mul_nonneg q1 q1
  have e2 : 2 * V * D = 2 * (V * D) := Int.mul_assoc _ _ _
  have VD1 : 1 ≤ V * D := by have := Int.mul_pos (show (0 : Int) < V by omega) (show (0 : Int) < D by omega); omega
  have R18 := W.mul R3 (by decide) (by omega)
  have R25 := Q.mul Q (by decide) (by omega)
  have R31 := own_two.mul W (by decide) (by omega)
  have R34 := R31.mul R3 (by decide) (by omega)
  have hE : 2 * V * D * (g * f) = 32768 := by
    calc 2 * V * D * (g * f) = 2 * (V * g) * (D * f) := by ac_rfl
      _ = 32768 := by rw [hg, hf]; rfl
  have ge : 1 ≤ g * f := by have := Int.mul_pos (show (0 : Int) < g by omega) (show (0 : Int) < f by omega); omega
  have gb : g ≤ 128 := by
    have := Int.mul_le_mul_of_nonneg_right w1 (show (0 : Int) ≤ g by omega)
    omega
  have fb : f ≤ 128 := by
    have := Int.mul_le_mul_of_nonneg_right d1 (show (0 : Int) ≤ f by omega)
    omega
  have Xe : X * (g * f) ≤ 16384 := by
    have h1 := Int.mul_le_mul_of_nonneg_right (Int.le_of_lt hlt) (show (0 : Int) ≤ g * f by omega)
    have h2 : 2 * (V * D * (g * f)) = 32768 := by rw [← hE]; ac_rfl
    omega
  have Xe0 : 0 ≤ X * (g * f) := Int.mul_nonneg q1 (by omega)
  have XB : (X * X * (g * f)).natAbs ≤ 16384 * 16384 := by
    rw [Int.mul_assoc]; exact own_prod (by omega) (by omega)
  have XB0 : 0 ≤ X * X * (g * f) := Int.mul_nonneg XX0 (by omega)
  have R35 := R25.div R34 (N := X * X * (g * f)) (r := 15) (by omega) (by decide) (by decide) (by decide) (by
    rw [own_p0, own_p15, Int.mul_one, Int.mul_one, ← hE]; ac_rfl) (by omega)
  have XF : (X * X * (g * f) * f).natAbs ≤ 16384 * 16384 * 128 := own_prod XB (by omega)
  have R43 := R35.neg.div R3 (N := -(X * X * (g * f) * f)) (r := 22) (by omega) (by decide) (by decide) (by decide) (by
    rw [own_p0, own_p15, own_p22, Int.mul_one, Int.neg_mul, Int.neg_mul, Int.neg_mul]
    congr 1
    calc X * X * (g * f) * 4194304 = X * X * (g * f) * 128 * 32768 := by rw [Int.mul_assoc (X * X * (g * f)) 128 32768]; rfl
      _ = X * X * (g * f) * (D * f) * 32768 := by rw [hf]
      _ = X * X * (g * f) * f * D * 32768 := by ac_rfl) (by omega)
  have R74 := R35.add (Dy.one.up (m := 32768) (l := 15) 15 rfl (by decide) (by rw [own_p15]; rfl)) (by omega)
  have N := Dy.l2d (i := n) (by omega)
  have mB : (2 * V * D * Y).natAbs ≤ 32768 * 2047 := own_prod (by omega) (by omega)
  have M := Dy.l2d (i := m) (by omega)
  have T := Dy.l2d (i := t) (by omega)
  have uB : (2 * V * D * D).natAbs ≤ 32768 * 128 := own_prod (by omega) (by omega)
  have uP : 0 < 2 * V * D * D := Int.mul_pos (by omega) (by omega)
  have mP : 0 < 2 * V * D * Y := Int.mul_pos (by omega) (by omega)
  have U := Dy.l2d (i := u) (by omega)
  have QS := T.div U (N := -(X * X * (g * f) * f)) (r := 22) (by omega) (by decide) (by decide) (by decide) (by
    rw [own_p0, own_p22, et, eu, Int.mul_one, Int.mul_one, Int.neg_mul, Int.neg_mul]
    congr 1
    calc X * X * 4194304 = X * X * (32768 * 128) := rfl
      _ = X * X * (2 * V * D * (g * f) * (D * f)) := by rw [hE, hf]
      _ = X * X * (g * f) * f * (2 * V * D * D) := by ac_rfl) (by omega)
  have same := R74.same S N M (by omega) (by omega) (by omega) (by omega) (by decide) (by decide) (by decide) (by decide) (by
    rw [own_p0, own_p15, Int.mul_one, Int.mul_one, Int.mul_one, en, em]
    calc (X * X * (g * f) + 32768) * (2 * V * D * Y) = (X * X * (g * f) + 2 * V * D * (g * f)) * (2 * V * D * Y) := by rw [hE]
      _ = (X * X + 2 * V * D) * (g * f) * (2 * V * D * Y) := by rw [Int.add_mul (X * X) (2 * V * D) (g * f)]
      _ = (X * X + 2 * V * D) * Y * (2 * V * D * (g * f)) := by ac_rfl
      _ = (X * X + 2 * V * D) * Y * 32768 := by rw [hE])
  have nt := R74.div_nn S (by omega)
  have S' : Dy (Y * 32768) 15 (FP.l2d s) := S.up 15 rfl (by decide) (by rw [own_p15])
  have lo := R74.div_ge S' (N := 1) (r := 11) (by omega) (by decide) (by decide) (by rw [show ((2 ^ 11 : Nat) : Int) = 2048 from rfl]; omega)
  have hi := R74.div_le S' (N := 32768) (r := 0) (by omega) (by decide) (by decide) (by rw [own_p0]; omega)
  have pp := own_pow_pos (1074 - 11)
  have p0 := own_pow_pos (1074 - 0)
  have ft : Jvm.FP.Core.DFin (FP.ddiv (FP.dadd (FP.ddiv (FP.dmul (FP.l2d q) (FP.l2d q)) (FP.dmul (FP.dmul (4611686018427387904 : UInt64) (FP.l2d w)) (FP.dsub (FP.l2d s) (FP.l2d a)))) FP.dconst1) (FP.l2d s)) :=
    own_fin nt (N := 32768) (j := 1074 - 0) (by decide) (by decide) (by omega) hi
  have z43 : own_z (FP.ddiv (FP.dneg (FP.ddiv (FP.dmul (FP.l2d q) (FP.l2d q)) (FP.dmul (FP.dmul (4611686018427387904 : UInt64) (FP.l2d w)) (FP.dsub (FP.l2d s) (FP.l2d a))))) (FP.dsub (FP.l2d s) (FP.l2d a))) ≤ 0 := by
    rw [R43.2, Int.neg_mul]
    have := Int.mul_nonneg (Int.mul_nonneg XB0 (show (0 : Int) ≤ f by omega)) (Int.le_of_lt (own_pow_pos (1074 - 22)))
    omega
  refine ⟨_, _, _, _, _, _, _, _, rfl, R3.nn, (R3.gt0 (Dy.zero 0) .l).mpr (by omega), rfl, R18.nn, (Q.lt0 R18 .g).mpr hlt, rfl, R25.nn, rfl, R31.nn, rfl, R34.nn, rfl, R35.nn, rfl, R43.nn, rfl, R74.nn, own_nn' nt, same, R43.fin, QS.fin, QS.nn, ?_⟩
  rw [← same]
  exact own_sub_same R43.fin ft QS.fin (R43.2.trans QS.2.symm) (by omega)
def e3 (s a : Int64) : UInt64 := FP.dsub (FP.l2d s) (FP.l2d a)
def e54 (s a w : Int64) : UInt64 := FP.dmul (e3 s a) (FP.l2d w)
def e58 (s a w : Int64) : UInt64 := FP.ddiv (e54 s a w) (4611686018427387904 : UInt64)
def e59 (q s a w : Int64) : UInt64 := FP.dsub (FP.l2d q) (e58 s a w)
def e68 (w : Int64) : UInt64 := FP.ddiv (FP.dneg (FP.l2d w)) (4611686018427387904 : UInt64)
def e74 (q s a w : Int64) : UInt64 := FP.dadd (e59 q s a w) FP.dconst1
def e77 (q s a w : Int64) : UInt64 := FP.ddiv (e74 q s a w) (FP.l2d s)
def e90 (q s a w : Int64) : UInt64 := FP.dsub (e68 w) (e77 q s a w)
def e93 (q s a w : Int64) : UInt64 := FP.ddiv (e90 q s a w) (FP.l2d s)
def l278 (w : Int64) : UInt64 := FP.ddiv (FP.l2d (-w)) (4611686018427387904 : UInt64)
def l287 (n m : Int64) : UInt64 := FP.ddiv (FP.l2d n) (FP.l2d m)
def l294 (w n m : Int64) : UInt64 := FP.dsub (l278 w) (l287 n m)
def l298 (w n m s : Int64) : UInt64 := FP.ddiv (l294 w n m) (FP.l2d s)
theorem own_E {q a s w n m : Int64} (q1 : 0 ≤ q.toInt) (q2 : q.toInt ≤ 2097152) (a1 : 0 ≤ a.toInt) (a2 : a.toInt ≤ 2047) (s1 : 1 ≤ s.toInt) (s2 : s.toInt ≤ 2047) (w1 : 1 ≤ w.toInt) (w2 : w.toInt ≤ 1024)
    (en : n.toInt = 2 * q.toInt - (s.toInt - a.toInt) * w.toInt + 2) (em : m.toInt = 2 * s.toInt) (pos : 0 < n.toInt) :
    Dy (s.toInt - a.toInt) 0 (e3 s a) ∧ Jvm.Free.Fl.NoNaN64 (e54 s a w) ∧ Jvm.Free.Fl.NoNaN64 (e58 s a w) ∧ Jvm.Free.Fl.NoNaN64 (e59 q s a w) ∧ Jvm.Free.Fl.NoNaN64 (e68 w) ∧ Jvm.Free.Fl.NoNaN64 (e74 q s a w) ∧ Jvm.Free.Fl.NoNaN64 (e77 q s a w) ∧ Jvm.Free.Fl.NoNaN64 (e90 q s a w) ∧ Jvm.Free.Fl.NoNaN64 (e93 q s a w) ∧
    Jvm.Free.Fl.NoNaN64 (l278 w) ∧ Jvm.Free.Fl.NoNaN64 (l287 n m) ∧ Jvm.Free.Fl.NoNaN64 (l294 w n m) ∧ Jvm.Free.Fl.NoNaN64 (l298 w n m s) ∧ cmpValue (FP.dcmp (e77 q s a w) (l287 n m)) .l = (0 : Int32) ∧ cmpValue (FP.dcmp (e93 q s a w) (l298 w n m s)) .l = (0 : Int32) := by
  obtain ⟨R3, n54, n58, n59, n74, n77, same, f68⟩ := own_else q1 q2 a1 a2 s1 s2 w1 w2 en em pos
  have same' : e77 q s a w = l287 n m := same
  have e8 : l278 w = e68 w := by unfold l278 e68; rw [own_negw w1]
  have f68' : Jvm.FP.Core.DFin (e68 w) := f68
  obtain ⟨t1, t2⟩ := own_tail s1 s2 f68' (show Jvm.Free.Fl.NoNaN64 (e77 q s a w) from n77)
  have t1' : Jvm.Free.Fl.NoNaN64 (e90 q s a w) := t1
  have t2' : Jvm.Free.Fl.NoNaN64 (e93 q s a w) := t2
  have e94 : l294 w n m = e90 q s a w := by unfold l294 e90; rw [e8, same']
  have e98 : l298 w n m s = e93 q s a w := by unfold l298 e93; rw [e94]
  refine ⟨R3, n54, n58, n59, own_nn f68', n74, n77, t1', t2', by rw [e8]; exact own_nn f68', by rw [← same']; exact n77, by rw [e94]; exact t1', by rw [e98]; exact t2', dcmpV_eq same' n77 .l, dcmpV_eq e98.symm t2' .l⟩
theorem own_m1023 (p : Int32) : 0 ≤ (p &&& (1023 : Int32)).toInt ∧ (p &&& (1023 : Int32)).toInt ≤ 1023 := c_and p (1023 : Int32) (by decide)
theorem own_mq (p : Int32) : 0 ≤ ((p &&& (32767 : Int32)).toInt64).toInt ∧ ((p &&& (32767 : Int32)).toInt64).toInt ≤ 32767 := by rw [Int32.toInt_toInt64]; exact c_and p (32767 : Int32) (by decide)
theorem own_ms (p : Int32) : 1 ≤ (((p &&& (1023 : Int32)) + (1 : Int32)).toInt64).toInt ∧ (((p &&& (1023 : Int32)) + (1 : Int32)).toInt64).toInt ≤ 1024 := by
  rw [Int32.toInt_toInt64]
  have h1 := own_m1023 p
  have h2 := c_iadd (p &&& (1023 : Int32)) (1 : Int32)
  have h3 := Int32.toInt_lt ((p &&& (1023 : Int32)) + (1 : Int32))
  have h4 := Int32.le_toInt ((p &&& (1023 : Int32)) + (1 : Int32))
  rw [show (1 : Int32).toInt = 1 from rfl] at h2
  omega
theorem own_seven (p : Int32) : (p &&& (7 : Int32)) = 0 ∨ (p &&& (7 : Int32)) = 1 ∨ (p &&& (7 : Int32)) = 2 ∨ (p &&& (7 : Int32)) = 3 ∨ (p &&& (7 : Int32)) = 4 ∨ (p &&& (7 : Int32)) = 5 ∨ (p &&& (7 : Int32)) = 6 ∨ (p &&& (7 : Int32)) = 7 := by
  have h := c_and p (7 : Int32) (by decide)
  rw [show (7 : Int32).toInt = 7 from rfl] at h
  have e : ∀ k : Int32, (p &&& (7 : Int32)) = k ↔ (p &&& (7 : Int32)).toInt = k.toInt := fun k => Int32.toInt_inj.symm
  rw [e, e, e, e, e, e, e, e]
  rw [show (0 : Int32).toInt = 0 from rfl, show (1 : Int32).toInt = 1 from rfl, show (2 : Int32).toInt = 2 from rfl, show (3 : Int32).toInt = 3 from rfl, show (4 : Int32).toInt = 4 from rfl, show (5 : Int32).toInt = 5 from rfl, show (6 : Int32).toInt = 6 from rfl, show (7 : Int32).toInt = 7 from rfl]
  omega
theorem own_shl (p : Int32) : ∃ f : Int, 1 ≤ f ∧ ((1 : Int64) <<< ((p &&& (7 : Int32)) &&& 0x3f).toInt64).toInt * f = 128 ∧ 1 ≤ ((1 : Int64) <<< ((p &&& (7 : Int32)) &&& 0x3f).toInt64).toInt ∧ ((1 : Int64) <<< ((p &&& (7 : Int32)) &&& 0x3f).toInt64).toInt ≤ 128 := by
  rcases own_seven p with h | h | h | h | h | h | h | h <;> rw [h]
  · exact ⟨128, by decide⟩
  · exact ⟨64, by decide⟩
  · exact ⟨32, by decide⟩
  · exact ⟨16, by decide⟩
  · exact ⟨8, by decide⟩
  · exact ⟨4, by decide⟩
  · exact ⟨2, by decide⟩
  · exact ⟨1, by decide⟩
theorem own_n {q w d : Int64} (q1 : 0 ≤ q.toInt) (q2 : q.toInt ≤ 2097152) (d1 : d.toInt.natAbs ≤ 2047) (w1 : 1 ≤ w.toInt) (w2 : w.toInt ≤ 1024) : ((((2 : Int64) * q) - (d * w)) + (2 : Int64)).toInt = 2 * q.toInt - d.toInt * w.toInt + 2 := by
  have pr := own_prod (x := d.toInt) (y := w.toInt) (X := 2047) (Y := 1024) d1 (by omega)
  have t2 : (2 : Int64).toInt = 2 := rfl
  have h1 := Jvm.Free.XT.mul64 (x := 2) (y := q) ⟨by rw [t2]; omega, by rw [t2]; omega⟩
  have h2 := Jvm.Free.XT.mul64 (x := d) (y := w) ⟨by omega, by omega⟩
  rw [t2] at h1
  have h3 := Jvm.Free.XT.sub64 (x := (2 : Int64) * q) (y := d * w) ⟨by omega, by omega⟩
  have h4 := Jvm.Free.XT.add64 (x := (2 : Int64) * q - d * w) (y := 2) ⟨by omega, by omega⟩
  rw [t2] at h4
  omega
theorem own_2s {s : Int64} (s1 : 1 ≤ s.toInt) (s2 : s.toInt ≤ 2047) : ((2 : Int64) * s).toInt = 2 * s.toInt := by
  have t2 : (2 : Int64).toInt = 2 := rfl
  have h1 := Jvm.Free.XT.mul64 (x := 2) (y := s) ⟨by rw [t2]; omega, by rw [t2]; omega⟩
  rw [t2] at h1; exact h1
theorem own_gt (d : Int64) : (0 : Int32) < lcmpW d (0 : Int64) ↔ 0 < d.toInt := by rw [lw_gt, Int64.lt_iff_toInt_lt]; rfl
theorem own_lt (x y : Int64) : lcmpW x y < (0 : Int32) ↔ x.toInt < y.toInt := by rw [lw_lt, Int64.lt_iff_toInt_lt]
theorem rm0 (l : Launch) (Z : State) (a0 : Array Value) (hw : ∀ d ∈ tables_1, d.before a0 Z = true) (ws : List Jvm.Cond) (p1 : Int32) (p2 : Int32) (p3 : Int32) (p4 : Int32) (p5 : Int32) (h0 : Heap) (n0 : Nat) (Z0 : n0 ≤ h0.size) :
    MetFree l x (head1 (Jvm.Cond.code x code maxLocals ret :: ws) room_1) (fun a U => a = #[(.int p1), (.int p2), (.int p3), (.int p4), (.int p5)] ∧ Z.Warmed39 U.vm ∧ U.heap = h0) (fun _ _ _ _ _ => True) (fun _ U o U' => ∃ v L, o = .returned v ∧ QL n0 v U'.heap L ∧ FrameEnd U o U' L room_1.cells room_1.slots) := by
  by_cases h8 : (p5 &&& (3 : Int32)) = (0 : Int32)
  · obtain ⟨s1, s2⟩ := own_ms p3
    obtain ⟨w1, w2⟩ := own_ms p4
    obtain ⟨b1, b2⟩ := own_m1023 p2
    obtain ⟨q1, q2⟩ := own_mq p1
    generalize hk19 : (((p3 &&& (1023 : Int32)) + (1 : Int32)).toInt64) = kk19 at *
    generalize hk40 : (((p4 &&& (1023 : Int32)) + (1 : Int32)).toInt64) = kk40 at *
    generalize hk48 : ((p1 &&& (32767 : Int32)).toInt64) = kk48 at *
    have ea : (kk19 + ((p2 &&& (1023 : Int32)).toInt64)).toInt = kk19.toInt + (p2 &&& (1023 : Int32)).toInt := by
      have q := Jvm.Free.XT.add64 (x := kk19) (y := (p2 &&& (1023 : Int32)).toInt64) (by rw [Int32.toInt_toInt64]; exact ⟨by omega, by omega⟩)
      rw [Int32.toInt_toInt64] at q; exact q
    generalize hk30 : (kk19 + ((p2 &&& (1023 : Int32)).toInt64)) = kk30 at *
    have ed := Jvm.Free.XT.sub64 (x := kk19) (y := kk30) ⟨by omega, by omega⟩
    have en := own_n (q := kk48) (w := kk40) (d := kk19 - kk30) q1 (by omega) (by omega) w1 w2
    rw [ed] at en
    have np : (kk19.toInt - kk30.toInt) * kk40.toInt ≤ 0 := by
      have := Int.mul_nonneg (show (0 : Int) ≤ -(kk19.toInt - kk30.toInt) by omega) (show (0 : Int) ≤ kk40.toInt by omega)
      rw [Int.neg_mul] at this; omega
    obtain ⟨R3, n54, n58, n59, n68, n74, n77, n90, n93, m278, m287, m294, m298, c1, c2⟩ := own_E (q := kk48) (a := kk30) (s := kk19) (w := kk40) q1 (by omega) (by omega) (by omega) s1 (by omega) w1 w2 en (own_2s s1 (by omega)) (by omega)
    exact rm0_ftff l Z a0 hw ws p1 p2 p3 p4 p5 kk19 kk30 kk40 kk48 _ (l278 kk40) (l287 _ _) (l294 kk40 _ _) (l298 kk40 _ _ kk19) (e77 kk48 kk19 kk30 kk40) (e93 kk48 kk19 kk30 kk40) h0 n0 Z0 h8 hk19 hk30 hk40 hk48 (fun z => by have := (own_gt _).mp z; omega) rfl rfl m278 rfl m287 rfl m294 rfl m298 c1 c2
      (rm1_t l Z a0 hw [] (FP.l2d kk48) (FP.l2d kk30) (FP.l2d kk19) (FP.l2d kk40) (e3 kk19 kk30) (e54 kk19 kk30 kk40) (e58 kk19 kk30 kk40) (e59 kk48 kk19 kk30 kk40) (e68 kk40) (e74 kk48 kk19 kk30 kk40) (e77 kk48 kk19 kk30 kk40) (e90 kk48 kk19 kk30 kk40) (e93 kk48 kk19 kk30 kk40) h0 n0 Z0 rfl R3.nn (fun z => by have := (R3.gt0 (Dy.zero 0) .l).mp z; omega) rfl n54 rfl n58 rfl n59 rfl n68 rfl n74 rfl n77 rfl n90 rfl n93)
  · by_cases h56 : (p5 &&& (3 : Int32)) = (2 : Int32)
    · obtain ⟨d1, d2⟩ := own_ms p3
      obtain ⟨w1, w2⟩ := own_ms p4
      obtain ⟨b1, b2⟩ := own_m1023 p2
      obtain ⟨q1, q2⟩ := own_mq p1
      rw [← Int32.toInt_toInt64] at b1 b2
      generalize hk75 : (((p3 &&& (1023 : Int32)) + (1 : Int32)).toInt64) = kk75 at *
      generalize hk92 : (((p4 &&& (1023 : Int32)) + (1 : Int32)).toInt64) = kk92 at *
      generalize hk65 : ((p2 &&& (1023 : Int32)).toInt64) = kk65 at *
      generalize hq0 : ((p1 &&& (32767 : Int32)).toInt64) = q0 at *
      have es := Jvm.Free.XT.add64 (x := kk65) (y := kk75) ⟨by omega, by omega⟩
      have ed := Jvm.Free.XT.sub64 (x := kk65 + kk75) (y := kk65) ⟨by omega, by omega⟩
      rw [es] at ed
      have pr := own_prod (x := kk92.toInt) (y := kk75.toInt) (X := 1024) (Y := 1024) (by omega) (by omega)
      have pp := Int.mul_pos (show (0 : Int) < kk92.toInt by omega) (show (0 : Int) < kk75.toInt by omega)
      have em := Jvm.Free.XT.mul64 (x := kk92) (y := kk75) ⟨by omega, by omega⟩
      have eq := Jvm.Free.XT.add64 (x := kk92 * kk75) (y := q0) ⟨by omega, by omega⟩
      rw [em] at eq
      generalize hk106 : ((kk92 * kk75) + q0) = kk106 at *
      have dd : kk65.toInt + kk75.toInt - kk65.toInt = kk75.toInt := by omega
      have en := own_n (q := kk106) (w := kk92) (d := (kk65 + kk75) - kk65) (by omega) (by omega) (by omega) w1 w2
      have emd := Jvm.Free.XT.mul64 (x := kk92) (y := (kk65 + kk75) - kk65) (by rw [ed, dd]; exact ⟨by omega, by omega⟩)
      rw [ed, dd] at emd
      have cm : kk75.toInt * kk92.toInt = kk92.toInt * kk75.toInt := Int.mul_comm _ _
      have en' : ((((2 : Int64) * kk106) - (((kk65 + kk75) - kk65) * kk92)) + (2 : Int64)).toInt = 2 * kk106.toInt - ((kk65 + kk75).toInt - kk65.toInt) * kk92.toInt + 2 := by rw [en, ed, es]
      obtain ⟨R3, n54, n58, n59, n68, n74, n77, n90, n93, m278, m287, m294, m298, c1, c2⟩ := own_E (q := kk106) (a := kk65) (s := kk65 + kk75) (w := kk92) (by omega) (by omega) (by omega) (by omega) (by omega) (by omega) w1 w2 en' (own_2s (by omega) (by omega)) (by rw [en, ed, dd]; omega)
      have R18 := (Dy.l2d (i := kk92) (by omega)).mul R3 (by decide) (by rw [es, dd]; omega)
      exact rm0_tfftff l Z a0 hw ws p1 p2 p3 p4 p5 kk65 kk75 kk92 kk106 _ (l278 kk92) (l287 _ _) (l294 kk92 _ _) (l298 kk92 _ _ (kk65 + kk75)) (e77 kk106 (kk65 + kk75) kk65 kk92) (e93 kk106 (kk65 + kk75) kk65 kk92) h0 n0 Z0 h8 h56 hk65 hk75 hk92 (by rw [hq0]; exact hk106) ((own_gt _).mpr (by omega)) (fun z => by have := (own_lt _ _).mp z; omega) rfl rfl m278 rfl m287 rfl m294 rfl m298 c1 c2
        (rm1_ft l Z a0 hw [] (FP.l2d kk106) (FP.l2d kk65) (FP.l2d (kk65 + kk75)) (FP.l2d kk92) (e3 (kk65 + kk75) kk65) _ (e54 (kk65 + kk75) kk65 kk92) (e58 (kk65 + kk75) kk65 kk92) (e59 kk106 (kk65 + kk75) kk65 kk92) (e68 kk92) (e74 kk106 (kk65 + kk75) kk65 kk92) (e77 kk106 (kk65 + kk75) kk65 kk92) (e90 kk106 (kk65 + kk75) kk65 kk92) (e93 kk106 (kk65 + kk75) kk65 kk92) h0 n0 Z0 rfl R3.nn ((R3.gt0 (Dy.zero 0) .l).mpr (by omega)) rfl R18.nn (fun z => by have := ((Dy.l2d (i := kk106) (by omega)).lt0 R18 .g).mp z; rw [es, dd] at this; omega) rfl n54 rfl n58 rfl n59 rfl n68 rfl n74 rfl n77 rfl n90 rfl n93)
    · obtain ⟨f, f1, hf, d1, d2⟩ := own_shl p3
      obtain ⟨g, g1, hg, w1, w2⟩ := own_shl p4
      obtain ⟨b1, b2⟩ := own_m1023 p2
      obtain ⟨q1, q2⟩ := own_mq p1
      rw [← Int32.toInt_toInt64] at b1 b2
      generalize hD : ((1 : Int64) <<< ((p3 &&& (7 : Int32)) &&& 0x3f).toInt64) = D at *
      generalize hk136 : ((1 : Int64) <<< ((p4 &&& (7 : Int32)) &&& 0x3f).toInt64) = kk136 at *
      generalize hk117 : ((p2 &&& (1023 : Int32)).toInt64) = kk117 at *
      generalize hk144 : ((p1 &&& (32767 : Int32)).toInt64) = kk144 at *
      have es := Jvm.Free.XT.add64 (x := kk117) (y := D) ⟨by omega, by omega⟩
      generalize hk128 : kk117 + D = kk128 at *
      have ed := Jvm.Free.XT.sub64 (x := kk128) (y := kk117) ⟨by omega, by omega⟩
      have dD : kk128.toInt - kk117.toInt = D.toInt := by omega
      have pr := own_prod (x := kk136.toInt) (y := D.toInt) (X := 128) (Y := 128) (by omega) (by omega)
      have pp := Int.mul_pos (show (0 : Int) < kk136.toInt by omega) (show (0 : Int) < D.toInt by omega)
      have ewd := Jvm.Free.XT.mul64 (x := kk136) (y := kk128 - kk117) (by rw [ed, dD]; exact ⟨by omega, by omega⟩)
      rw [ed, dD] at ewd
      by_cases hlt : kk144.toInt < kk136.toInt * D.toInt
      · have qq := own_prod (x := kk144.toInt) (y := kk144.toInt) (X := 16384) (Y := 16384) (by omega) (by omega)
        have qq0 := Int.mul_nonneg q1 q1
        have t2 : (2 : Int64).toInt = 2 := rfl
        have x1 := Jvm.Free.XT.mul64 (x := kk144) (y := kk144) ⟨by omega, by omega⟩
        have x2 := Jvm.Free.XT.mul64 (x := 2) (y := kk136) (by rw [t2]; exact ⟨by omega, by omega⟩)
        rw [t2] at x2
        have e2 : 2 * kk136.toInt * D.toInt = 2 * (kk136.toInt * D.toInt) := Int.mul_assoc _ _ _
        have x3 := Jvm.Free.XT.mul64 (x := (2 : Int64) * kk136) (y := kk128 - kk117) (by rw [x2, ed, dD]; exact ⟨by omega, by omega⟩)
        rw [x2, ed] at x3
        have x4 := Jvm.Free.XT.add64 (x := kk144 * kk144) (y := (2 : Int64) * kk136 * (kk128 - kk117)) (by rw [x1, x3, dD]; exact ⟨by omega, by omega⟩)
        rw [x1, x3] at x4
        have mB := own_prod (x := 2 * kk136.toInt * D.toInt) (y := kk128.toInt) (X := 32768) (Y := 2047) (by omega) (by omega)
        have x5 := Jvm.Free.XT.mul64 (x := (2 : Int64) * kk136 * (kk128 - kk117)) (y := kk128) (by rw [x3, dD]; exact ⟨by omega, by omega⟩)
        rw [x3] at x5
        have uB := own_prod (x := 2 * kk136.toInt * D.toInt) (y := D.toInt) (X := 32768) (Y := 128) (by omega) (by omega)
        have x6 := Jvm.Free.XT.mul64 (x := (2 : Int64) * kk136 * (kk128 - kk117)) (y := kk128 - kk117) (by rw [x3, ed, dD]; exact ⟨by omega, by omega⟩)
        rw [x3, ed] at x6
        have x7 := Jvm.FP.Core.int64_neg (a := kk144 * kk144) (by rw [x1]; omega)
        rw [x1] at x7
        obtain ⟨r3, r18, r25, r31, r34, r35, r43, r74, v3, n3, c10, v18, n18, c20, v25, n25, v31, n31, v34, n34, v35, n35, v43, n43, v74, n74, n77, same, f43, fQ, nQ, sub⟩ := own_drain (q := kk144) (a := kk117) (s := kk128) (w := kk136) (n := (kk144 * kk144) + (((2 : Int64) * kk136) * (kk128 - kk117))) (m := (((2 : Int64) * kk136) * (kk128 - kk117)) * kk128) (t := -(kk144 * kk144)) (u := (((2 : Int64) * kk136) * (kk128 - kk117)) * (kk128 - kk117)) (f := f) (g := g) q1 (by omega) (by omega) (by omega) (by omega) (by omega) w1 w2 f1 g1 (by rw [dD]; exact hf) hg (by rw [dD]; exact hlt) x4 x5 x7 x6
        obtain ⟨t1, t3⟩ := own_tail (s := kk128) (by omega) (by omega) f43 n77
        have nS := same ▸ n77
        obtain ⟨t4, t5⟩ := own_tail (s := kk128) (by omega) (by omega) fQ nS
        exact rm0_ttffff l Z a0 hw ws p1 p2 p3 p4 p5 kk117 kk128 kk136 kk144 _ _ _ _ _ _ _ _ h0 n0 Z0 h8 h56 hk117 (by rw [hD]; exact hk128) hk136 hk144 ((own_gt _).mpr (by omega)) ((own_lt _ _).mpr (by omega)) rfl rfl rfl nQ rfl nS rfl t4 rfl t5 (dcmpV_eq same n77 .l) (dcmpV_eq (congrArg (fun z => FP.ddiv z (FP.l2d kk128)) sub) t3 .l)
          (rm1_ff l Z a0 hw [] (FP.l2d kk144) (FP.l2d kk117) (FP.l2d kk128) (FP.l2d kk136) r3 r18 r25 r31 r34 r35 r43 r74 _ _ _ h0 n0 Z0 v3 n3 c10 v18 n18 c20 v25 n25 v31 n31 v34 n34 v35 n35 v43 n43 v74 n74 rfl n77 rfl t1 rfl t3)
      · have en := own_n (q := kk144) (w := kk136) (d := kk128 - kk117) q1 (by omega) (by omega) w1 (by omega)
        have cm : D.toInt * kk136.toInt = kk136.toInt * D.toInt := Int.mul_comm _ _
        have en' : ((((2 : Int64) * kk144) - ((kk128 - kk117) * kk136)) + (2 : Int64)).toInt = 2 * kk144.toInt - (kk128.toInt - kk117.toInt) * kk136.toInt + 2 := by rw [en, ed]
        obtain ⟨R3, n54, n58, n59, n68, n74, n77, n90, n93, m278, m287, m294, m298, c1, c2⟩ := own_E (q := kk144) (a := kk117) (s := kk128) (w := kk136) q1 (by omega) (by omega) (by omega) (by omega) (by omega) w1 (by omega) en' (own_2s (by omega) (by omega)) (by rw [en, ed, dD]; omega)
        have R18 := (Dy.l2d (i := kk136) (by omega)).mul R3 (by decide) (by rw [dD]; omega)
        exact rm0_ttftff l Z a0 hw ws p1 p2 p3 p4 p5 kk117 kk128 kk136 kk144 _ (l278 kk136) (l287 _ _) (l294 kk136 _ _) (l298 kk136 _ _ kk128) (e77 kk144 kk128 kk117 kk136) (e93 kk144 kk128 kk117 kk136) h0 n0 Z0 h8 h56 hk117 (by rw [hD]; exact hk128) hk136 hk144 ((own_gt _).mpr (by omega)) (fun z => by have := (own_lt _ _).mp z; omega) rfl rfl m278 rfl m287 rfl m294 rfl m298 c1 c2
          (rm1_ft l Z a0 hw [] (FP.l2d kk144) (FP.l2d kk117) (FP.l2d kk128) (FP.l2d kk136) (e3 kk128 kk117) _ (e54 kk128 kk117 kk136) (e58 kk128 kk117 kk136) (e59 kk144 kk128 kk117 kk136) (e68 kk136) (e74 kk144 kk128 kk117 kk136) (e77 kk144 kk128 kk117 kk136) (e90 kk144 kk128 kk117 kk136) (e93 kk144 kk128 kk117 kk136) h0 n0 Z0 rfl R3.nn ((R3.gt0 (Dy.zero 0) .l).mpr (by omega)) rfl R18.nn (fun z => by have := ((Dy.l2d (i := kk144) (by omega)).lt0 R18 .g).mp z; rw [dD] at this; omega) rfl n54 rfl n58 rfl n59 rfl n68 rfl n74 rfl n77 rfl n90 rfl n93)
set_option maxRecDepth 65536 in
set_option maxHeartbeats 40000000 in
theorem comes_1 {Post : Tables → Env → Array Value → State → Outcome → State → Prop} (hpost : ∀ tb e args s v u, (limb_1_1.after args s (.returned v) u = true ∧ limb_1_2.after args s (.returned v) u = true ∧ True) → FrameEnd s (.returned v) u (Jvm.fieldLocs frame_1_writes args s ++ Jvm.arrayLocs frame_1_arrays args s ++ Jvm.staticLocs frame_1_statics s) 16 128 → Post tb e args s (.returned v) u) :
    ArmFor flags0 classFile x code maxLocals ret World_1 tables_1 room_1 Calls_1 rest_1 Pre_1 Post := by
  intro l hfl _ _ p e ha hc hk s m args below hf hA hF happ hP
  obtain ⟨hcalls, hrest, hpre⟩ := hP
  obtain ⟨-, -, -, hnamed, -, -, -, hat⟩ := (Spec.applies_iff hf).mp happ
  obtain ⟨hg, hn⟩ := and_e (Cond.before_iff.mp (show (Jvm.Cond.and given_1 narrow_1).before args s = true from hpre))
  obtain ⟨g9, g10⟩ := and_e hg
  obtain ⟨g11, g12⟩ := and_e g10
  obtain ⟨g13, g14⟩ := and_e g12
  obtain ⟨g15, g16⟩ := and_e g14
  obtain ⟨g17, g18⟩ := and_e g16
  obtain ⟨w0, w1, w2, w3, w4, rfl⟩ : ∃ w0 w1 w2 w3 w4 : Value, args = #[w0, w1, w2, w3, w4] := by
    have hs : args.size = 5 := by simpa [Cond.value, given_1] using g9
    obtain ⟨L⟩ := args
    match L, hs with
    | [w0, w1, w2, w3, w4], _ => exact ⟨w0, w1, w2, w3, w4, rfl⟩
  have hw := fun d (hd : d ∈ tables_1) => atoms_spec (ws := Jvm.Cond.code x code maxLocals ret :: tables_1) hat d (List.mem_cons_of_mem _ hd)
  have hfit : Fit s := fun {y c} hc i hi => by
    obtain ⟨ha, rfl⟩ := Array.getElem?_eq_some_iff.mp hc
    have q := List.all_eq_true.mp ((Array.all_eq_true_iff_forall_mem.mp hF) _ (Array.getElem_mem ha)) i (List.mem_range.mpr hi)
    simpa [Array.getElem?_eq_getElem hi] using q
  obtain ⟨i0, ei0⟩ := is_v g11
  obtain rfl : w0 = (.int i0) := Option.some.inj ei0
  obtain ⟨i1, ei1⟩ := is_v g13
  obtain rfl : w1 = (.int i1) := Option.some.inj ei1
  obtain ⟨i2, ei2⟩ := is_v g15
  obtain rfl : w2 = (.int i2) := Option.some.inj ei2
  obtain ⟨i3, ei3⟩ := is_v g17
  obtain rfl : w3 = (.int i3) := Option.some.inj ei3
  obtain ⟨i4, ei4⟩ := is_v g18
  obtain rfl : w4 = (.int i4) := Option.some.inj ei4
  obtain ⟨n, o, h1, h2, h3, _, L, rfl, ⟨rfl, N⟩, hq⟩ := rm0 l s _ hw tables_1 i0 i1 i2 i3 i4 s.heap s.heap.size (Nat.le_refl _) p e ha hc hk s m _ below hf ((Spec.applies_iff_loose hf).mp happ).1 ⟨rfl, State.Warmed39.refl s, rfl⟩ trivial
  refine ⟨n, _, h1, h2, h3, hpost _ _ _ _ _ _ ⟨Cond.after_iff.mpr rfl, Cond.after_iff.mpr (eq_i res_at (Term.int_eval (1)) rfl), trivial⟩ ⟨hq.1, hq.2.1, (hq.2.2.sift fun y hy => Or.inr (N y hy)).mono (by decide) (by decide)⟩⟩
theorem main_1_1 : Claimed_1_1 := comes_1 fun _ _ _ _ _ _ h hF => ⟨h.1, hF⟩
theorem main_1_2 : Claimed_1_2 := comes_1 fun _ _ _ _ _ _ h hF => ⟨h.2.1, hF⟩

end Jvm.Pilot.@@N@@
namespace Jvm.Pilot.@@N@@
open Jvm Jvm.ClassFile Sem Op Lib Jvm.Free Jvm.Stand Jvm.Pilot.@@N@@.Jvm.D
/-! MADE BY PROGRAM (witnessworld.py) out of the Statement's table words and the real class files: 11 classes; the members and pool entries that the words name. The judged class is class 1, her method 1. -/
namespace start1
open Jvm.ClassFile
def u (s : String) : CpInfo := .utf8 (stringToUtf16 s)
/-- a pool by its gaps: so many unusable entries, then the entry; so many at the end -/
def gap : Nat → List CpInfo → List CpInfo
  | 0, r => r
  | n + 1, r => .unusable :: gap n r
def poolList (es : List (Nat × CpInfo)) (last : Nat) : List CpInfo := es.foldr (fun e r => gap e.1 (e.2 :: r)) (gap last [])
def pool (es : List (Nat × CpInfo)) (last : Nat) : Array CpInfo := ⟨poolList es last⟩
def fileOf (pool : Array CpInfo) (this : Nat) (attrs : Array Attribute := #[]) (ms : Array MethodInfo := #[]) (fl : Nat := 33) (sup : Nat := 0) (ifs : Array Nat := #[]) (fds : Array FieldInfo := #[]) : ClassFile where
  minorVersion := 0
  majorVersion := 65
  constantPool := pool
  accessFlags := fl
  thisClass := this
  superClass := sup
  interfaces := ifs
  fields := fds
  methods := ms
  attributes := attrs
def plain (name : String) (sup : Option ClassId) : Class where
  name := name
  kind := .ordinary
  loader := none
  accessFlags := 33
  super := sup
  interfaces := #[]
  cf := none
  fields := #[]
  methods := #[]
  instanceTypes := #[]
  staticTypes := #[]
  resolved := #[]
  callSites := []
  init := .initialized
  statics := none
  mirror := none

def pool0 : Array CpInfo := pool [(5, u "<init>"), (0, u "()V"), (1, .class_ 10), (1, u "java/lang/Object")] 113

def k0c0 : Code := { maxStack := 0, maxLocals := 1, code := object_method_1_code, exceptionTable := #[], attributes := #[] }
def k0m0 : Method := { name := "<init>", desc := "()V", sig := { parameters := [], returnType := none }, accessFlags := 1, code := some k0c0 }
/-- java/lang/Object -/
def k0 : Class := { plain "java/lang/Object" none with
  accessFlags := 33
  interfaces := #[]
  cf := some (fileOf pool0 8 #[] #[{ accessFlags := 1, nameIndex := 5, descriptorIndex := 6, attributes := #[] }] 33 0 #[] #[])
  fields := #[]
  methods := #[k0m0]
  instanceTypes := #[]
  staticTypes := #[]
  resolved := Array.replicate 124 none
  statics := none }

def pool1 : Array CpInfo := pool [(2, .class_ 4), (1, u "java/lang/Object"), (0, u "<init>"), (0, u "()V"), (0, .methodref 8 9), (0, .class_ 10), (0, .nameAndType 11 12), (0, u "dev/tidemark/usage/WindowQueue"), (0, u "approximateResponse"), (0, u "(DDDD)Ldev/tidemark/usage/WindowQueue$Response;"), (0, .long 2), (1, .double 4611686018427387904), (1, .methodref 18 19), (0, .class_ 20), (0, .nameAndType 21 22), (0, u "dev/tidemark/usage/WindowQueue$Response"), (0, u "time"), (0, u "()D"), (0, .methodref 18 24), (0, .nameAndType 25 22), (0, u "slope"), (0, .class_ 27), (0, u "dev/tidemark/usage/WindowQueueApproximateResponsePinLaw"), (2, u "law"), (0, u "(IIIII)Z")] 5

def k1m0 : Method := { name := "<init>", desc := "()V", sig := { parameters := [], returnType := none }, accessFlags := 1, code := none }
def k1c1 : Code := { maxStack := 8, maxLocals := 27, code := code, exceptionTable := #[], attributes := #[] }
def k1m1 : Method := { name := "law", desc := "(IIIII)Z", sig := { parameters := [.int, .int, .int, .int, .int], returnType := some .boolean }, accessFlags := 9, code := some k1c1 }
/-- dev/tidemark/usage/WindowQueueApproximateResponsePinLaw -/
def k1 : Class := { plain "dev/tidemark/usage/WindowQueueApproximateResponsePinLaw" (some 0) with
  accessFlags := 49
  interfaces := #[]
  cf := some (fileOf pool1 26 #[] #[{ accessFlags := 1, nameIndex := 5, descriptorIndex := 6, attributes := #[] }, { accessFlags := 9, nameIndex := 30, descriptorIndex := 31, attributes := #[] }] 49 2 #[] #[])
  fields := #[]
  methods := #[k1m0, k1m1]
  instanceTypes := #[]
  staticTypes := #[]
  resolved := Array.replicate 37 none
  statics := none }

def pool2 : Array CpInfo := pool [(1, .methodref 2 3), (0, .class_ 4), (0, .nameAndType 5 6), (0, u "java/lang/Object"), (0, u "<init>"), (0, u "()V"), (0, .class_ 8), (0, u "java/lang/Record")] 13

def k2c0 : Code := { maxStack := 1, maxLocals := 1, code := jdk_30_method_1_code, exceptionTable := #[], attributes := #[] }
def k2m0 : Method := { name := "<init>", desc := "()V", sig := { parameters := [], returnType := none }, accessFlags := 4, code := some k2c0 }
/-- java/lang/Record -/
def k2 : Class := { plain "java/lang/Record" (some 0) with
  accessFlags := 1057
  interfaces := #[]
  cf := some (fileOf pool2 7 #[] #[{ accessFlags := 4, nameIndex := 5, descriptorIndex := 6, attributes := #[] }] 1057 2 #[] #[])
  fields := #[]
  methods := #[k2m0]
  instanceTypes := #[]
  staticTypes := #[]
  resolved := Array.replicate 22 none
  statics := none }

def pool3 : Array CpInfo := pool [(2, .class_ 4), (1, u "java/lang/Record"), (0, u "<init>"), (23, .class_ 31), (1, u "dev/tidemark/usage/WindowQueue"), (0, u "startQueue"), (0, u "Ljava/math/BigDecimal;"), (2, u "arrival"), (2, u "service"), (0, u "Ldev/tidemark/usage/Quotient;"), (2, u "window"), (35, u "TWO"), (10, .double 4611686018427387904), (1, .class_ 93), (0, u "dev/tidemark/usage/WindowQueue$Response"), (0, .methodref 92 95), (0, .nameAndType 5 96), (0, u "(DD)V"), (27, u "approximateResponse"), (0, u "(DDDD)Ldev/tidemark/usage/WindowQueue$Response;")] 28

def k3c0 : Code := { maxStack := 8, maxLocals := 16, code := prog_66_method_7_code, exceptionTable := #[], attributes := #[] }
def k3m0 : Method := { name := "approximateResponse", desc := "(DDDD)Ldev/tidemark/usage/WindowQueue$Response;", sig := { parameters := [.double, .double, .double, .double], returnType := some (.object "dev/tidemark/usage/WindowQueue$Response") }, accessFlags := 8, code := some k3c0 }
/-- dev/tidemark/usage/WindowQueue -/
def k3 : Class := { plain "dev/tidemark/usage/WindowQueue" (some 2) with
  accessFlags := 49
  interfaces := #[]
  cf := some (fileOf pool3 29 #[.nestMembers #[92]] #[{ accessFlags := 8, nameIndex := 124, descriptorIndex := 125, attributes := #[] }] 49 2 #[] #[{ accessFlags := 18, nameIndex := 32, descriptorIndex := 33, attributes := #[] }, { accessFlags := 18, nameIndex := 36, descriptorIndex := 33, attributes := #[] }, { accessFlags := 18, nameIndex := 39, descriptorIndex := 40, attributes := #[] }, { accessFlags := 18, nameIndex := 43, descriptorIndex := 33, attributes := #[] }, { accessFlags := 26, nameIndex := 79, descriptorIndex := 33, attributes := #[] }])
  fields := #[{ name := "startQueue", type := (.object "java/math/BigDecimal"), accessFlags := 18, slot := 0, constantValue := 0 }, { name := "arrival", type := (.object "java/math/BigDecimal"), accessFlags := 18, slot := 1, constantValue := 0 }, { name := "service", type := (.object "dev/tidemark/usage/Quotient"), accessFlags := 18, slot := 2, constantValue := 0 }, { name := "window", type := (.object "java/math/BigDecimal"), accessFlags := 18, slot := 3, constantValue := 0 }, { name := "TWO", type := (.object "java/math/BigDecimal"), accessFlags := 26, slot := 0, constantValue := 0 }]
  methods := #[k3m0]
  instanceTypes := #[(.object "java/math/BigDecimal"), (.object "java/math/BigDecimal"), (.object "dev/tidemark/usage/Quotient"), (.object "java/math/BigDecimal")]
  staticTypes := #[(.object "java/math/BigDecimal")]
  resolved := Array.replicate 154 none
  statics := none }

def pool4 : Array CpInfo := pool [(1, .methodref 2 3), (0, .class_ 4), (0, .nameAndType 5 6), (0, u "java/lang/Record"), (0, u "<init>"), (0, u "()V"), (0, .fieldref 8 9), (0, .class_ 10), (0, .nameAndType 11 12), (0, u "dev/tidemark/usage/WindowQueue$Response"), (0, u "time"), (0, u "D"), (0, .fieldref 8 14), (0, .nameAndType 15 12), (0, u "slope"), (12, u "(DD)V"), (6, u "()D"), (3, .class_ 40), (0, u "dev/tidemark/usage/WindowQueue")] 20

def k4c0 : Code := { maxStack := 3, maxLocals := 5, code := prog_67_method_1_code, exceptionTable := #[], attributes := #[] }
def k4m0 : Method := { name := "<init>", desc := "(DD)V", sig := { parameters := [.double, .double], returnType := none }, accessFlags := 0, code := some k4c0 }
def k4c1 : Code := { maxStack := 2, maxLocals := 1, code := prog_67_method_5_code, exceptionTable := #[], attributes := #[] }
def k4m1 : Method := { name := "time", desc := "()D", sig := { parameters := [], returnType := some .double }, accessFlags := 1, code := some k4c1 }
def k4c2 : Code := { maxStack := 2, maxLocals := 1, code := prog_67_method_6_code, exceptionTable := #[], attributes := #[] }
def k4m2 : Method := { name := "slope", desc := "()D", sig := { parameters := [], returnType := some .double }, accessFlags := 1, code := some k4c2 }
/-- dev/tidemark/usage/WindowQueue$Response -/
def k4 : Class := { plain "dev/tidemark/usage/WindowQueue$Response" (some 2) with
  accessFlags := 48
  interfaces := #[]
  cf := some (fileOf pool4 8 #[.nestHost 39] #[{ accessFlags := 0, nameIndex := 5, descriptorIndex := 28, attributes := #[] }, { accessFlags := 1, nameIndex := 11, descriptorIndex := 35, attributes := #[] }, { accessFlags := 1, nameIndex := 15, descriptorIndex := 35, attributes := #[] }] 48 2 #[] #[{ accessFlags := 18, nameIndex := 11, descriptorIndex := 12, attributes := #[] }, { accessFlags := 18, nameIndex := 15, descriptorIndex := 12, attributes := #[] }])
  fields := #[{ name := "time", type := .double, accessFlags := 18, slot := 0, constantValue := 0 }, { name := "slope", type := .double, accessFlags := 18, slot := 1, constantValue := 0 }]
  methods := #[k4m0, k4m1, k4m2]
  instanceTypes := #[.double, .double]
  staticTypes := #[]
  resolved := Array.replicate 61 none
  statics := none }

def pool5 : Array CpInfo := pool [(1, u "java/lang/Cloneable"), (0, .class_ 1), (0, u "java/lang/Object"), (0, .class_ 3)] 3

/-- java/lang/Cloneable -/
def k5 : Class := { plain "java/lang/Cloneable" (some 0) with
  accessFlags := 1537
  interfaces := #[]
  cf := some (fileOf pool5 2 #[] #[] 1537 4 #[] #[])
  fields := #[]
  methods := #[]
  instanceTypes := #[]
  staticTypes := #[]
  resolved := Array.replicate 8 none
  statics := none }

def pool6 : Array CpInfo := pool [(1, u "java/io/Serializable"), (0, .class_ 1), (0, u "java/lang/Object"), (0, .class_ 3)] 3

/-- java/io/Serializable -/
def k6 : Class := { plain "java/io/Serializable" (some 0) with
  accessFlags := 1537
  interfaces := #[]
  cf := some (fileOf pool6 2 #[] #[] 1537 4 #[] #[])
  fields := #[]
  methods := #[]
  instanceTypes := #[]
  staticTypes := #[]
  resolved := Array.replicate 8 none
  statics := none }

/-- the primitive byte -/
def k7 : Class := { plain "byte" none with kind := .primitive 'B', accessFlags := 0x411 }
/-- [B -/
def k8 : Class := { plain "[B" (some 0) with kind := .array 7 .byte, interfaces := #[5, 6], accessFlags := 1041 }

/-- the primitive int -/
def k9 : Class := { plain "int" none with kind := .primitive 'I', accessFlags := 0x411 }
/-- [I -/
def k10 : Class := { plain "[I" (some 0) with kind := .array 9 .int, interfaces := #[5, 6], accessFlags := 1041 }

def heap : Heap := #[]
def classes : Array Class := #[k0, k1, k2, k3, k4, k5, k6, k7, k8, k9, k10]
def interned : List (Array UInt16 × Addr) := []
def slotsUsed : Nat := 0
def theMethod : MethodId := ⟨1, 1⟩
def args0 : Array Value := #[.int 5, .int 7, .int 9, .int 3, .int 1]
def aboutOver (below : List Frame) : State where
  vm := { classes := classes, interned := interned.toArray }
  heap := heap
  slotsUsed := slotsUsed
  threads := #[{ frames := .invoking theMethod args0 :: below }]
def below0 : List Frame := [.native { method := ⟨0, 0⟩, args := #[] }]
def about1 : State := aboutOver below0
def p0 : Program := .bare "" "" ""
def e0 : Env := launch0.env 0 0 0
theorem w_frames : about1.frames = Frame.invoking theMethod args0 :: below0 := rfl
set_option maxRecDepth 65536 in
theorem w_args : argsFit about1.vm theMethod args0 = true := by decide +kernel
set_option maxRecDepth 65536 in
theorem w_heap : heapFits about1 = true := by decide +kernel
set_option maxRecDepth 65536 in
theorem w_runnable : about1.curStatus? = some .runnable := by decide +kernel
set_option maxRecDepth 65536 in
theorem w_alone : about1.alone = true := by decide +kernel
set_option maxRecDepth 65536 in
theorem w_named : about1.methodNamed? x = some theMethod := by decide +kernel
set_option maxRecDepth 65536 in
theorem w_hears : about1.hears theMethod below0 = true := by decide +kernel
set_option maxRecDepth 65536 in
theorem w_ripe : about1.ripe theMethod args0 below0 = true := by decide +kernel
theorem w_running : about1.status = .running := rfl
set_option maxRecDepth 65536 in
theorem w_room : about1.hasRoom e0.platform room_1 = true :=
  launch0.hasRoom_least _ room_1 (by decide +kernel) (by decide +kernel) (by decide +kernel) (by decide +kernel) (by decide +kernel) (by decide +kernel)
theorem allAtoms_all (ts : List Jvm.Cond) (a : Array Jvm.Value) (st : Jvm.State) : (allAtoms ts).before a st = ts.all (fun c => c.before a st) := by
  induction ts with
  | nil => rfl
  | cons c t ih =>
    show (Jvm.Cond.and c (allAtoms t)).before a st = _
    rw [Jvm.Cond.before_and, ih, List.all_cons]
def words1 : List Jvm.Cond := Jvm.Cond.code x code maxLocals ret :: tables_1
/-- a 'code' word, met by the world's own term for the bytes: nothing is compared byte by byte -/
theorem code_word {y : MethodName} {bytes : ByteArray} {mx : Nat} {rt : Option FieldType} {a : Array Value} {s : State} {m : MethodId} {meth : Method} {c : Code} (h1 : s.methodNamed? y = some m) (h2 : s.vm.method? m = some meth) (h3 : meth.code = some c) (h4 : c.code = bytes)
    (h5 : (c.maxLocals == mx && c.exceptionTable.isEmpty && decide (c.maxStack ≤ mostOperands) && decide (meth.sig.returnType = rt) && !meth.locks && decide (parseMethodDescriptor y.desc = some meth.sig)) = true) : (Jvm.Cond.code y bytes mx rt).before a s = true := by
  simp only [Bool.and_eq_true, beq_iff_eq, Bool.not_eq_true', decide_eq_true_eq] at h5
  obtain ⟨⟨⟨⟨⟨g1, g2⟩, g3⟩, g4⟩, g5⟩, g6⟩ := h5
  simp [Cond.before, Cond.holds, Cond.value, h1, h2, h3, h4, g1, g2, g3, g4, g5, g6]
def isCode : Jvm.Cond → Bool
  | .code _ _ _ _ => true
  | _ => false
theorem all_split {L : List Jvm.Cond} {P : Jvm.Cond → Bool} (h1 : L.all (fun c => isCode c || P c) = true) (h2 : ∀ c ∈ L.filter isCode, P c = true) : L.all P = true := by
  refine List.all_eq_true.mpr fun c hc => ?_
  have h := List.all_eq_true.mp h1 c hc
  rcases Bool.eq_false_or_eq_true (isCode c) with hi | hi
  · exact h2 c (List.mem_filter.mpr ⟨hc, hi⟩)
  · simpa [hi] using h
set_option maxRecDepth 65536 in
theorem w_c0 : (Jvm.Cond.code x code maxLocals ret).before args0 about1 = true := code_word (m := ⟨1, 1⟩) (meth := k1m1) (c := k1c1) (by decide +kernel) rfl rfl rfl (by decide +kernel)
set_option maxRecDepth 65536 in
theorem w_c1 : (Jvm.Cond.code ({ cls := "dev/tidemark/usage/WindowQueue", name := "approximateResponse", desc := "(DDDD)Ldev/tidemark/usage/WindowQueue$Response;" } : Jvm.MethodName) prog_66_method_7_code (16 : Nat) (Option.some (Jvm.ClassFile.FieldType.object "dev/tidemark/usage/WindowQueue$Response"))).before args0 about1 = true := code_word (m := ⟨3, 0⟩) (meth := k3m0) (c := k3c0) (by decide +kernel) rfl rfl rfl (by decide +kernel)
set_option maxRecDepth 65536 in
theorem w_c2 : (Jvm.Cond.code ({ cls := "dev/tidemark/usage/WindowQueue$Response", name := "<init>", desc := "(DD)V" } : Jvm.MethodName) prog_67_method_1_code (5 : Nat) (Option.none : Option Jvm.ClassFile.FieldType)).before args0 about1 = true := code_word (m := ⟨4, 0⟩) (meth := k4m0) (c := k4c0) (by decide +kernel) rfl rfl rfl (by decide +kernel)
set_option maxRecDepth 65536 in
theorem w_c3 : (Jvm.Cond.code ({ cls := "java/lang/Record", name := "<init>", desc := "()V" } : Jvm.MethodName) jdk_30_method_1_code (1 : Nat) (Option.none : Option Jvm.ClassFile.FieldType)).before args0 about1 = true := code_word (m := ⟨2, 0⟩) (meth := k2m0) (c := k2c0) (by decide +kernel) rfl rfl rfl (by decide +kernel)
set_option maxRecDepth 65536 in
theorem w_c4 : (Jvm.Cond.code ({ cls := "java/lang/Object", name := "<init>", desc := "()V" } : Jvm.MethodName) object_method_1_code (1 : Nat) (Option.none : Option Jvm.ClassFile.FieldType)).before args0 about1 = true := code_word (m := ⟨0, 0⟩) (meth := k0m0) (c := k0c0) (by decide +kernel) rfl rfl rfl (by decide +kernel)
set_option maxRecDepth 65536 in
theorem w_c5 : (Jvm.Cond.code ({ cls := "dev/tidemark/usage/WindowQueue$Response", name := "time", desc := "()D" } : Jvm.MethodName) prog_67_method_5_code (1 : Nat) (Option.some Jvm.ClassFile.FieldType.double)).before args0 about1 = true := code_word (m := ⟨4, 1⟩) (meth := k4m1) (c := k4c1) (by decide +kernel) rfl rfl rfl (by decide +kernel)
set_option maxRecDepth 65536 in
theorem w_c6 : (Jvm.Cond.code ({ cls := "dev/tidemark/usage/WindowQueue$Response", name := "slope", desc := "()D" } : Jvm.MethodName) prog_67_method_6_code (1 : Nat) (Option.some Jvm.ClassFile.FieldType.double)).before args0 about1 = true := code_word (m := ⟨4, 2⟩) (meth := k4m2) (c := k4c2) (by decide +kernel) rfl rfl rfl (by decide +kernel)
def codes1 : List Jvm.Cond := [Jvm.Cond.code x code maxLocals ret, Jvm.Cond.code ({ cls := "dev/tidemark/usage/WindowQueue", name := "approximateResponse", desc := "(DDDD)Ldev/tidemark/usage/WindowQueue$Response;" } : Jvm.MethodName) prog_66_method_7_code (16 : Nat) (Option.some (Jvm.ClassFile.FieldType.object "dev/tidemark/usage/WindowQueue$Response")), Jvm.Cond.code ({ cls := "dev/tidemark/usage/WindowQueue$Response", name := "<init>", desc := "(DD)V" } : Jvm.MethodName) prog_67_method_1_code (5 : Nat) (Option.none : Option Jvm.ClassFile.FieldType), Jvm.Cond.code ({ cls := "java/lang/Record", name := "<init>", desc := "()V" } : Jvm.MethodName) jdk_30_method_1_code (1 : Nat) (Option.none : Option Jvm.ClassFile.FieldType), Jvm.Cond.code ({ cls := "java/lang/Object", name := "<init>", desc := "()V" } : Jvm.MethodName) object_method_1_code (1 : Nat) (Option.none : Option Jvm.ClassFile.FieldType), Jvm.Cond.code ({ cls := "dev/tidemark/usage/WindowQueue$Response", name := "time", desc := "()D" } : Jvm.MethodName) prog_67_method_5_code (1 : Nat) (Option.some Jvm.ClassFile.FieldType.double), Jvm.Cond.code ({ cls := "dev/tidemark/usage/WindowQueue$Response", name := "slope", desc := "()D" } : Jvm.MethodName) prog_67_method_6_code (1 : Nat) (Option.some Jvm.ClassFile.FieldType.double)]
set_option maxRecDepth 65536 in
theorem codes_eq : words1.filter isCode = codes1 := rfl
theorem w_codes : ∀ c ∈ words1.filter isCode, c.before args0 about1 = true := by
  rw [codes_eq]
  intro c hc
  simp only [codes1, List.mem_cons, List.not_mem_nil, or_false] at hc
  rcases hc with rfl | rfl | rfl | rfl | rfl | rfl | rfl
  · exact w_c0
  · exact w_c1
  · exact w_c2
  · exact w_c3
  · exact w_c4
  · exact w_c5
  · exact w_c6
set_option maxRecDepth 65536 in
theorem w_t1 : (words1.take 24).all (fun c => isCode c || c.before args0 about1) = true := by decide +kernel
set_option maxRecDepth 65536 in
theorem w_t2 : (words1.drop 24).all (fun c => isCode c || c.before args0 about1) = true := by decide +kernel
theorem w_tables : (allAtoms (Jvm.Cond.code x code maxLocals ret :: tables_1)).before args0 about1 = true := by
  rw [allAtoms_all]
  show words1.all (fun c => c.before args0 about1) = true
  refine all_split ?_ w_codes
  rw [← List.take_append_drop 24 words1, List.all_append, w_t1, w_t2]
  rfl
set_option maxRecDepth 65536 in
theorem w_case : (Jvm.Cond.and given_1 narrow_1).before args0 about1 = true := by decide +kernel
theorem w_applies : (headSpec (Jvm.Cond.code x code maxLocals ret :: tables_1) room_1).applies x e0.platform about1 = true :=
  (Spec.applies_iff w_frames).mpr ⟨w_running, w_runnable, w_alone, w_named, w_hears, w_ripe, w_room, w_tables⟩
theorem atStart : AtStart classFile x code maxLocals ret World_1 tables_1 room_1 Calls_1 rest_1 Pre_1 launch0 p0 e0 about1 theMethod args0 below0 :=
  ⟨lists_1, trivial, launch0.admits_env _ _ _, launch0.least_env, fairChoices_fair.cas, fairChoices_fair.clock, w_frames, w_args, w_heap, w_applies, trivial, trivial, w_case⟩
end start1
theorem witness_1 : WitnessClaimed_1 := ⟨start1.p0, start1.e0, start1.about1, start1.theMethod, start1.args0, start1.below0, start1.atStart⟩
end Jvm.Pilot.@@N@@
