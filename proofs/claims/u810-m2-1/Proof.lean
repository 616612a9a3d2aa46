import JvmDerived
import JvmDerived.Pilot.@@N@@Statement
import JvmDerived.Pilot.@@N@@Code
set_option linter.unusedVariables false
set_option linter.unusedSimpArgs false
namespace Jvm.RoadKit
open Sem ClassFile Op Lib Jvm.Stand Jvm.Free Jvm.LawKit
section New
variable {p : Program} {l : Launch} {e : Env} {R : Room} {s : State} {m : MethodId} {args : Array Value} {below : List Frame} {meth : Method} {c : Code} {T : State} {locs : List Loc} {cells slots : Nat}
theorem retI (X : Stand p l e R s m args below meth c T locs cells slots) (hx : p.tables.exec = Jvm.exec) {pc : Nat} {Ls : Array Slot} {z : Int32} {rest : List Value} (hret : meth.sig.returnType = some .int) (hd : decode c.code pc = .ok (.ireturn, 1)) {fs : List Frame}
    (hl : ∀ (f : JFrame) (acts : List Action), f.method = m → f.locked = none → f.entered = [] → (doReturn e (T.setTop f) acts (some (.int z))).1 = T.setFrames fs) : Steps p.tables e below (T.setTop (mkF m pc Ls (.int z :: rest))) (T.setFrames fs) := by
  have hm' : T.vm.method? m = some meth := X.method'
  have hn : narrow .int (.int z) = .int z := rfl
  show Steps p.tables e below (T.setTop { method := m, pc := pc, locals := Ls, stack := _ :: rest, locked := none }) _
  jvm_step X.here [X.here.top, hx, hd, hm', hret, hn]
  first | (intro acts; rw [hl _ acts rfl rfl rfl]) | rw [hl _ _ rfl rfl rfl]
  exact Steps.refl _
end New
end Jvm.RoadKit
namespace Jvm.Pilot.@@N@@
section OwnFl
open Jvm.FP.Core
/-- a double's value in units of 2^-1074 -/
def own_z (a : UInt64) : Int := zval b64 (val64 a)
theorem own_signed (N : Int) : signed (decide (N < 0)) N.natAbs = N := by
  unfold signed
  by_cases h : N < 0
  · simp only [h, decide_true, if_true]; omega
  · simp only [h, decide_false, Bool.false_eq_true, if_false]; omega
theorem own_qmax : b64.qmax = 971 := by decide
theorem own_p : b64.p = 53 := rfl
theorem own_rep {N : Int} {j : Nat} (hN : N.natAbs < 2 ^ 53) (hj : j ≤ 2045) :
    ∃ V : Datum, Jvm.FP.Core.fits b64 V ∧ V ≠ .nan ∧ (∀ s, V ≠ .inf s) ∧ zval b64 V = N * ((2 ^ j : Nat) : Int) := by
  obtain ⟨c', q', h1, h2⟩ := round_exact good_b64 (decide (N < 0)) (c := N.natAbs) (q := (j : Int) - 1074) hN (by rw [qmin_b64]; omega) (by rw [own_qmax]; omega)
  refine ⟨.fin (decide (N < 0)) c' q', h1 ▸ round_fits good_b64 _, by simp, by simp, ?_⟩
  show signed (decide (N < 0)) (inUnits c' q' b64.qmin) = _
  rw [h2]
  unfold inUnits
  rw [qmin_b64, signed_mul, own_signed, show ((j : Int) - 1074 - -1074).toNat = j by omega]
theorem own_top {V : Datum} (h1 : Jvm.FP.Core.fits b64 V) (h2 : V ≠ .nan) (h3 : ∀ s, V ≠ .inf s) : zmag b64 V < b64.tails * 2 ^ (b64.exps - 2) := by
  cases V with
  | nan => exact absurd rfl h2
  | inf s => exact absurd rfl (h3 s)
  | fin s c q => exact zmag_lt_top good_b64 h1
theorem own_zabs (d : Datum) : (zval b64 d).natAbs = zmag b64 d := natAbs_signed _ _
theorem own_fin {a : UInt64} (hn : val64 a ≠ .nan) {N : Int} {j : Nat} (hN : N.natAbs < 2 ^ 53) (hj : j ≤ 2045)
    (h1 : -(N * ((2 ^ j : Nat) : Int)) ≤ own_z a) (h2 : own_z a ≤ N * ((2 ^ j : Nat) : Int)) : DFin a := by
  obtain ⟨V, f1, f2, f3, f4⟩ := own_rep hN hj
  have t := own_top f1 f2 f3
  rw [← f4] at h1 h2
  have e1 := own_zabs V
  have e2 := own_zabs (val64 a)
  have e3 : own_z a = zval b64 (val64 a) := rfl
  cases hd : val64 a with
  | nan => exact absurd hd hn
  | inf s =>
    rw [hd] at e2 e3
    have e4 : zmag b64 (.inf s) = b64.tails * 2 ^ (b64.exps - 2) := rfl
    rw [e4] at e2
    generalize b64.tails * 2 ^ (b64.exps - 2) = X at *
    omega
  | fin s c q => exact ⟨s, c, q, hd⟩
theorem own_nn {a : UInt64} (h : DFin a) : Jvm.Free.Fl.NoNaN64 a := (Jvm.Free.Fl.fin64_core.mpr h).noNaN
theorem own_z_neg (a : UInt64) : own_z (Jvm.FP.dneg a) = -own_z a := by
  unfold own_z
  rw [Jvm.FP.val64_dneg, zval_negate]
theorem own_fin_neg {a : UInt64} (h : DFin a) : DFin (Jvm.FP.dneg a) := by
  obtain ⟨s, c, q, h⟩ := h
  exact ⟨!s, c, q, by rw [Jvm.FP.val64_dneg, h]; rfl⟩
-- sums
theorem own_add_nn {a b : UInt64} (ha : DFin a) (hb : DFin b) : val64 (Jvm.FP.dadd a b) ≠ .nan := (notNaN_iff _).mp (dadd_out ha.notNaN hb)
theorem own_add_le {a b : UInt64} (ha : DFin a) (hb : DFin b) {N : Int} {j : Nat} (hN : N.natAbs < 2 ^ 53) (hj : j ≤ 2045)
    (h : own_z a + own_z b ≤ N * ((2 ^ j : Nat) : Int)) : own_z (Jvm.FP.dadd a b) ≤ N * ((2 ^ j : Nat) : Int) := by
  obtain ⟨V, f1, f2, -, f4⟩ := own_rep hN hj
  have q := sum_le good_b64 ha hb (val64_fits a) (val64_fits b) f1 f2 (by rw [f4]; exact h)
  rw [f4, ← val64_dadd] at q
  exact q
theorem own_add_ge {a b : UInt64} (ha : DFin a) (hb : DFin b) {N : Int} {j : Nat} (hN : N.natAbs < 2 ^ 53) (hj : j ≤ 2045)
    (h : N * ((2 ^ j : Nat) : Int) ≤ own_z a + own_z b) : N * ((2 ^ j : Nat) : Int) ≤ own_z (Jvm.FP.dadd a b) := by
  obtain ⟨V, f1, f2, -, f4⟩ := own_rep hN hj
  have q := sum_ge good_b64 ha hb (val64_fits a) (val64_fits b) f1 f2 (by rw [f4]; exact h)
  rw [f4, ← val64_dadd] at q
  exact q
theorem own_fin_abs {a : UInt64} (hn : val64 a ≠ .nan) {N : Int} {j : Nat} (hN : N.natAbs < 2 ^ 53) (hj : j ≤ 2045) (h : own_z a = N * ((2 ^ j : Nat) : Int)) : DFin a := by
  have p : (0 : Int) ≤ ((2 ^ j : Nat) : Int) := Int.natCast_nonneg _
  by_cases s : 0 ≤ N
  · have := Int.mul_nonneg s p
    exact own_fin hn hN hj (by omega) (by omega)
  · have q := Int.mul_nonneg (show (0 : Int) ≤ -N by omega) p
    rw [Int.neg_mul] at q
    refine own_fin hn (N := -N) (j := j) (by omega) hj ?_ ?_ <;> rw [Int.neg_mul] <;> omega
theorem own_add {a b : UInt64} (ha : DFin a) (hb : DFin b) {N : Int} {j : Nat} (hN : N.natAbs < 2 ^ 53) (hj : j ≤ 2045)
    (h : own_z a + own_z b = N * ((2 ^ j : Nat) : Int)) : DFin (Jvm.FP.dadd a b) ∧ own_z (Jvm.FP.dadd a b) = N * ((2 ^ j : Nat) : Int) := by
  have q : own_z (Jvm.FP.dadd a b) = N * ((2 ^ j : Nat) : Int) := by
    have h1 := own_add_le ha hb hN hj (Int.le_of_eq h)
    have h2 := own_add_ge ha hb hN hj (Int.le_of_eq h.symm)
    omega
  exact ⟨own_fin_abs (own_add_nn ha hb) hN hj q, q⟩
theorem own_sub_eq {a b : UInt64} (hb : DFin b) : Jvm.FP.dsub a b = Jvm.FP.dadd a (Jvm.FP.dneg b) := by
  rw [Jvm.FP.dneg_core hb.notNaN]; exact dsub_eq a b
theorem own_sum_val {a b : UInt64} (ha : DFin a) (hb : DFin b) (hz : own_z a + own_z b ≠ 0) :
    val64 (Jvm.FP.dadd a b) = roundRatio b64 (decide (own_z a + own_z b < 0)) (own_z a + own_z b).natAbs 1 (-1074) := by
  have fa := val64_fits a
  have fb := val64_fits b
  have za : own_z a = zval b64 (val64 a) := rfl
  have zb : own_z b = zval b64 (val64 b) := rfl
  obtain ⟨s, c, q, ea⟩ := ha
  obtain ⟨t, d, r, eb⟩ := hb
  rw [show val64 (Jvm.FP.dadd a b) = _ from val64_dadd a b, ea, eb]
  rw [ea] at fa za
  rw [eb] at fb zb
  obtain ⟨sg, n, e, h1, h2, h3⟩ := sum_units fa fb
  rw [← za, ← zb] at h3
  rw [h1]
  show roundRatio b64 sg n 1 e = _
  rw [qmin_b64] at h2
  have hn : inUnits n e b64.qmin = (own_z a + own_z b).natAbs := by rw [← h3, natAbs_signed]
  have hs : sg = decide (own_z a + own_z b < 0) := by
    have hp : 0 < inUnits n e b64.qmin := by omega
    rw [← h3]; exact (signed_lt_zero sg hp).symm
  rw [← hs]
  refine roundRatio_congr (by decide) (by decide) ?_
  rw [← hn]
  unfold inUnits
  rw [qmin_b64, show (-1074 - e).toNat = 0 by omega, Nat.pow_zero, Nat.mul_one, Nat.mul_one, Nat.mul_one]
theorem own_sum_same {a b a' b' : UInt64} (ha : DFin a) (hb : DFin b) (ha' : DFin a') (hb' : DFin b') (h : own_z a + own_z b = own_z a' + own_z b') (hz : own_z a + own_z b ≠ 0) : Jvm.FP.dadd a b = Jvm.FP.dadd a' b' := by
  refine val64_inj (own_add_nn ha hb) ?_
  rw [own_sum_val ha hb hz, own_sum_val ha' hb' (by rw [← h]; exact hz), h]
theorem own_sub_same {a b a' : UInt64} (ha : DFin a) (hb : DFin b) (ha' : DFin a') (h : own_z a = own_z a') (hz : own_z a ≠ own_z b) : Jvm.FP.dsub a b = Jvm.FP.dsub a' b := by
  rw [own_sub_eq hb, own_sub_eq hb]
  exact own_sum_same ha (own_fin_neg hb) ha' (own_fin_neg hb) (by rw [h]) (by rw [own_z_neg]; omega)
-- products
theorem own_mul_nn {a b : UInt64} (ha : DFin a) (hb : DFin b) : val64 (Jvm.FP.dmul a b) ≠ .nan := (notNaN_iff _).mp (dmul_out ha hb)
theorem own_mul {a b : UInt64} (ha : DFin a) (hb : DFin b) {N : Int} {j : Nat} (hN : N.natAbs < 2 ^ 53) (hj : j ≤ 2045)
    (h : own_z a * own_z b = N * ((2 ^ j : Nat) : Int) * ((2 ^ 1074 : Nat) : Int)) : DFin (Jvm.FP.dmul a b) ∧ own_z (Jvm.FP.dmul a b) = N * ((2 ^ j : Nat) : Int) := by
  have q : own_z (Jvm.FP.dmul a b) = N * ((2 ^ j : Nat) : Int) := by
    obtain ⟨V, f1, f2, -, f4⟩ := own_rep hN hj
    have fa := val64_fits a
    have fb := val64_fits b
    obtain ⟨s, c, q, ea⟩ := ha
    obtain ⟨t, d, r, eb⟩ := hb
    unfold own_z at h ⊢
    rw [ea] at fa
    rw [eb] at fb
    rw [val64_dmul, ea, eb]
    rw [ea, eb] at h
    obtain ⟨u1, u2, u3⟩ := product_units fa fb
    rw [u1]
    have e : signed (s != t) (inUnits (c * d) (q + r) (2 * b64.qmin)) = zval b64 (.fin s c q) * zval b64 (.fin t d r) := by
      rw [u3]; exact signed_xor s t _ _
    have k : (b64.qmin - 2 * b64.qmin).toNat = 1074 := by rw [qmin_b64]; decide
    have w1 := zval_round_le good_b64 f1 f2 (e0 := 2 * b64.qmin) (by rw [qmin_b64]; decide) u2 (by rw [e, h, f4, k]; exact Int.le_refl _)
    have w2 := zval_round_ge good_b64 f1 f2 (e0 := 2 * b64.qmin) (by rw [qmin_b64]; decide) u2 (by rw [e, h, f4, k]; exact Int.le_refl _)
    rw [f4] at w1 w2
    exact Int.le_antisymm w1 w2
  exact ⟨own_fin_abs (own_mul_nn ha hb) hN hj q, q⟩
-- quotients by a positive number
theorem own_div_val {a b : UInt64} (ha : DFin a) (hb : DFin b) (hz : own_z b ≠ 0) :
    val64 (Jvm.FP.ddiv a b) = roundRatio b64 (sgn (val64 a) != sgn (val64 b)) (own_z a).natAbs (own_z b).natAbs 0 := by
  have fa := val64_fits a
  have fb := val64_fits b
  have ea' : (own_z a).natAbs = zmag b64 (val64 a) := own_zabs _
  have eb' : (own_z b).natAbs = zmag b64 (val64 b) := own_zabs _
  have hz' : zmag b64 (val64 b) ≠ 0 := by omega
  rw [ea', eb', show val64 (Jvm.FP.ddiv a b) = _ from val64_ddiv a b]
  obtain ⟨s, c, q, ea⟩ := ha
  obtain ⟨t, d, r, eb⟩ := hb
  rw [ea] at fa ⊢
  rw [eb] at fb hz' ⊢
  have q1 := fa.2.1
  have r1 := fb.2.1
  have hz2 : inUnits d r b64.qmin ≠ 0 := hz'
  unfold inUnits at hz2
  have hd : d ≠ 0 := fun z => hz2 (by rw [z, Nat.zero_mul])
  show (if d = 0 then _ else roundRatio b64 (s != t) c d (q - r)) = roundRatio b64 (s != t) (inUnits c q b64.qmin) (inUnits d r b64.qmin) 0
  rw [if_neg hd]
  refine roundRatio_congr (Nat.pos_of_ne_zero hd) (Nat.pos_of_ne_zero hz') ?_
  unfold inUnits
  rw [qmin_b64] at *
  have e1 : (q - r - 0).toNat + (r - -1074).toNat = (q - -1074).toNat + (0 - (q - r)).toNat := by omega
  calc c * (d * 2 ^ (r - -1074).toNat) * 2 ^ (q - r - 0).toNat = c * d * 2 ^ ((q - r - 0).toNat + (r - -1074).toNat) := by rw [Nat.pow_add]; ac_rfl
    _ = c * d * 2 ^ ((q - -1074).toNat + (0 - (q - r)).toNat) := by rw [e1]
    _ = c * 2 ^ (q - -1074).toNat * d * 2 ^ (0 - (q - r)).toNat := by rw [Nat.pow_add]; ac_rfl
theorem own_sgn_pos {a : UInt64} (h : 0 < own_z a) : sgn (val64 a) = false := by
  cases e : sgn (val64 a) with
  | false => rfl
  | true =>
    have : own_z a = -((zmag b64 (val64 a) : Nat) : Int) := by unfold own_z zval; rw [e]; rfl
    omega
theorem own_sgn_neg {a : UInt64} (h : own_z a < 0) : sgn (val64 a) = true := by
  cases e : sgn (val64 a) with
  | true => rfl
  | false =>
    have : own_z a = ((zmag b64 (val64 a) : Nat) : Int) := by unfold own_z zval; rw [e]; rfl
    omega
theorem own_div_z {a b : UInt64} (ha : DFin a) (hb : DFin b) (hz : 0 < own_z b) :
    own_z (Jvm.FP.ddiv a b) = signed (sgn (val64 a)) (zmag b64 (roundRatio b64 (sgn (val64 a)) (own_z a).natAbs (own_z b).natAbs 0)) := by
  unfold own_z zval
  have q := own_div_val ha hb (by omega)
  rw [own_sgn_pos hz, Bool.bne_false] at q
  unfold own_z at q
  rw [q, sgn_roundRatio]
  rfl
theorem own_div_nn {a b : UInt64} (ha : DFin a) (hb : DFin b) (hz : own_z b ≠ 0) : val64 (Jvm.FP.ddiv a b) ≠ .nan := by
  rw [own_div_val ha hb hz]; exact roundRatio_ne_nan _ _ _ _ _
theorem own_rr_le {s : Bool} {A B : Nat} (hB : 0 < B) {N : Int} {j : Nat} (hN : N.natAbs < 2 ^ 53) (hj : j ≤ 2045) (h : A * 2 ^ 1074 ≤ N.natAbs * 2 ^ j * B) :
    zmag b64 (roundRatio b64 s A B 0) ≤ N.natAbs * 2 ^ j := by
  obtain ⟨V, f1, f2, -, f4⟩ := own_rep hN hj
  have e : zmag b64 V = N.natAbs * 2 ^ j := by rw [← own_zabs, f4, Int.natAbs_mul, Int.natAbs_natCast]
  have q := zmag_roundRatio_le good_b64 (s := s) (A := A) (B := B) (e := 0) (e0 := b64.qmin) hB f1 f2 (Int.le_refl _) (by rw [qmin_b64]; decide)
    (by unfold inUnits; rw [e, Int.sub_self, qmin_b64, show ((0 : Int) - -1074).toNat = 1074 from rfl, show (0 : Int).toNat = 0 from rfl, Nat.pow_zero, Nat.mul_one]; exact h)
  rw [e] at q; exact q
theorem own_rr_ge {s : Bool} {A B : Nat} (hB : 0 < B) {N : Int} {j : Nat} (hN : N.natAbs < 2 ^ 53) (hj : j ≤ 2045) (h : N.natAbs * 2 ^ j * B ≤ A * 2 ^ 1074) :
    N.natAbs * 2 ^ j ≤ zmag b64 (roundRatio b64 s A B 0) := by
  obtain ⟨V, f1, f2, -, f4⟩ := own_rep hN hj
  have e : zmag b64 V = N.natAbs * 2 ^ j := by rw [← own_zabs, f4, Int.natAbs_mul, Int.natAbs_natCast]
  have q := zmag_roundRatio_ge good_b64 (s := s) (A := A) (B := B) (e := 0) (e0 := b64.qmin) hB f1 (Int.le_refl _) (by rw [qmin_b64]; decide)
    (by unfold inUnits; rw [e, Int.sub_self, qmin_b64, show ((0 : Int) - -1074).toNat = 1074 from rfl, show (0 : Int).toNat = 0 from rfl, Nat.pow_zero, Nat.mul_one]; exact h)
  rw [e] at q; exact q
theorem own_cast_le {A B N : Nat} {j k : Nat} (h : (A : Int) * ((2 ^ k : Nat) : Int) ≤ (N : Int) * ((2 ^ j : Nat) : Int) * (B : Int)) : A * 2 ^ k ≤ N * 2 ^ j * B := by
  rw [← Int.natCast_mul, ← Int.natCast_mul, ← Int.natCast_mul] at h
  exact Int.ofNat_le.mp h
theorem own_cast_ge {A B N : Nat} {j k : Nat} (h : (N : Int) * ((2 ^ j : Nat) : Int) * (B : Int) ≤ (A : Int) * ((2 ^ k : Nat) : Int)) : N * 2 ^ j * B ≤ A * 2 ^ k := by
  rw [← Int.natCast_mul, ← Int.natCast_mul, ← Int.natCast_mul] at h
  exact Int.ofNat_le.mp h
theorem own_div_le {a b : UInt64} (ha : DFin a) (hb : DFin b) (hz : 0 < own_z b) {N : Int} {j : Nat} (hN : N.natAbs < 2 ^ 53) (hj : j ≤ 2045)
    (h : own_z a * ((2 ^ 1074 : Nat) : Int) ≤ N * ((2 ^ j : Nat) : Int) * own_z b) : own_z (Jvm.FP.ddiv a b) ≤ N * ((2 ^ j : Nat) : Int) := by
  rw [own_div_z ha hb hz]
  have p : (0 : Int) < ((2 ^ j : Nat) : Int) := by exact_mod_cast Nat.two_pow_pos j
  have p2 : (0 : Int) < ((2 ^ 1074 : Nat) : Int) := by exact_mod_cast Nat.two_pow_pos 1074
  have hB : 0 < (own_z b).natAbs := by omega
  have eb : ((own_z b).natAbs : Int) = own_z b := by omega
  by_cases s : 0 ≤ N
  · have q := Int.mul_nonneg s (Int.le_of_lt p)
    have eN : (N.natAbs : Int) = N := by omega
    cases e : sgn (val64 a) with
    | true =>
      show -((_ : Nat) : Int) ≤ _
      omega
    | false =>
      have ez : own_z a = ((own_z a).natAbs : Int) := by
        have : own_z a = ((zmag b64 (val64 a) : Nat) : Int) := by unfold own_z zval; rw [e]; rfl
        omega
      have r := own_rr_le (s := false) (A := (own_z a).natAbs) hB hN hj (own_cast_le (by rw [eb, eN, ← ez]; exact h))
      show ((_ : Nat) : Int) ≤ _
      have r2 := Int.ofNat_le.mpr r
      rw [Int.natCast_mul, eN] at r2
      exact r2
  · have nb : own_z a < 0 := by
      refine Int.lt_of_not_ge fun g => ?_
      have g1 := Int.mul_nonneg g (Int.le_of_lt p2)
      have g2 := Int.mul_pos (Int.mul_pos (show (0 : Int) < -N by omega) p) hz
      rw [Int.neg_mul, Int.neg_mul] at g2
      omega
    rw [own_sgn_neg nb]
    show -((_ : Nat) : Int) ≤ _
    have eN : (N.natAbs : Int) = -N := by omega
    have ez : ((own_z a).natAbs : Int) = -own_z a := by omega
    have r := own_rr_ge (s := true) (A := (own_z a).natAbs) hB hN hj (own_cast_ge (by rw [eb, eN, ez, Int.neg_mul, Int.neg_mul, Int.neg_mul]; omega))
    have r2 := Int.ofNat_le.mpr r
    rw [Int.natCast_mul, eN, Int.neg_mul] at r2
    omega
theorem own_div_ge {a b : UInt64} (ha : DFin a) (hb : DFin b) (hz : 0 < own_z b) {N : Int} {j : Nat} (hN : N.natAbs < 2 ^ 53) (hj : j ≤ 2045)
    (h : N * ((2 ^ j : Nat) : Int) * own_z b ≤ own_z a * ((2 ^ 1074 : Nat) : Int)) : N * ((2 ^ j : Nat) : Int) ≤ own_z (Jvm.FP.ddiv a b) := by
  have q := own_div_le (own_fin_neg ha) hb hz (N := -N) (j := j) (by omega) hj (by rw [own_z_neg, Int.neg_mul, Int.neg_mul, Int.neg_mul]; omega)
  have e : own_z (Jvm.FP.ddiv (Jvm.FP.dneg a) b) = -own_z (Jvm.FP.ddiv a b) := by
    unfold own_z
    rw [show val64 (Jvm.FP.ddiv (Jvm.FP.dneg a) b) = _ from val64_ddiv _ b, Jvm.FP.val64_dneg, quotient_negate, zval_negate, show val64 (Jvm.FP.ddiv a b) = _ from val64_ddiv a b]
  rw [e, Int.neg_mul] at q
  omega
theorem own_div {a b : UInt64} (ha : DFin a) (hb : DFin b) (hz : 0 < own_z b) {N : Int} {j : Nat} (hN : N.natAbs < 2 ^ 53) (hj : j ≤ 2045)
    (h : own_z a * ((2 ^ 1074 : Nat) : Int) = N * ((2 ^ j : Nat) : Int) * own_z b) : DFin (Jvm.FP.ddiv a b) ∧ own_z (Jvm.FP.ddiv a b) = N * ((2 ^ j : Nat) : Int) := by
  have q : own_z (Jvm.FP.ddiv a b) = N * ((2 ^ j : Nat) : Int) :=
    Int.le_antisymm (own_div_le ha hb hz hN hj (Int.le_of_eq h)) (own_div_ge ha hb hz hN hj (Int.le_of_eq h.symm))
  exact ⟨own_fin_abs (own_div_nn ha hb (by omega)) hN hj q, q⟩
theorem own_div_same {a b a' b' : UInt64} (ha : DFin a) (hb : DFin b) (ha' : DFin a') (hb' : DFin b') (pa : 0 < own_z a) (pb : 0 < own_z b) (pa' : 0 < own_z a') (pb' : 0 < own_z b')
    (h : own_z a * own_z b' = own_z a' * own_z b) : Jvm.FP.ddiv a b = Jvm.FP.ddiv a' b' := by
  refine val64_inj (own_div_nn ha hb (by omega)) ?_
  rw [own_div_val ha hb (by omega), own_div_val ha' hb' (by omega), own_sgn_pos pa, own_sgn_pos pb, own_sgn_pos pa', own_sgn_pos pb']
  refine roundRatio_congr (by omega) (by omega) ?_
  rw [show ((0 : Int) - 0).toNat = 0 from rfl, Nat.pow_zero, Nat.mul_one, Nat.mul_one, ← Int.natAbs_mul, ← Int.natAbs_mul, h]
-- comparison
theorem own_cmp {a b : UInt64} (ha : val64 a ≠ .nan) (hb : val64 b ≠ .nan) : Jvm.FP.dcmp a b = some (compare (own_z a) (own_z b)) := dcmp_zval ha hb
theorem own_cmp_int {a b : UInt64} (ha : val64 a ≠ .nan) (hb : val64 b ≠ .nan) (o : Jvm.ClassFile.CmpOp) :
    Jvm.Op.cmpValue (Jvm.FP.dcmp a b) o = if own_z a < own_z b then -1 else if own_z a = own_z b then 0 else 1 := by
  rw [own_cmp ha hb, compare_ite]
  by_cases h : own_z a < own_z b
  · rw [if_pos h, if_pos h]; cases o <;> rfl
  · rw [if_neg h, if_neg h]
    by_cases h2 : own_z a = own_z b
    · rw [if_pos h2, if_pos h2]; cases o <;> rfl
    · rw [if_neg h2, if_neg h2]; cases o <;> rfl
-- whole numbers
theorem own_z_l2d {i : Int64} (h : i.toInt.natAbs ≤ 2 ^ 53) : own_z (Jvm.FP.l2d i) = i.toInt * ((2 ^ 1074 : Nat) : Int) := DInt_zval (l2d_int h)
theorem own_z_i2d (i : Int32) : own_z (Jvm.FP.i2d i) = i.toInt * ((2 ^ 1074 : Nat) : Int) := DInt_zval (i2d_int i)
theorem own_fin_l2d (i : Int64) : DFin (Jvm.FP.l2d i) := l2d_fin i
theorem own_fin_i2d (i : Int32) : DFin (Jvm.FP.i2d i) := i2d_fin i
-- n / 2^k
def Dy (n : Int) (k : Nat) (a : UInt64) : Prop := DFin a ∧ own_z a = n * ((2 ^ (1074 - k) : Nat) : Int)
theorem Dy.fin {n : Int} {k : Nat} {a : UInt64} (h : Dy n k a) : DFin a := h.1
theorem Dy.nn {n : Int} {k : Nat} {a : UInt64} (h : Dy n k a) : Jvm.Free.Fl.NoNaN64 a := own_nn h.1
theorem Dy.i2d (i : Int32) : Dy i.toInt 0 (Jvm.FP.i2d i) := ⟨own_fin_i2d i, own_z_i2d i⟩
theorem Dy.l2d {i : Int64} (h : i.toInt.natAbs ≤ 2 ^ 53) : Dy i.toInt 0 (Jvm.FP.l2d i) := ⟨own_fin_l2d i, own_z_l2d h⟩
theorem Dy.add {n m : Int} {k : Nat} {a b : UInt64} (ha : Dy n k a) (hb : Dy m k b) (h : (n + m).natAbs < 2 ^ 53) : Dy (n + m) k (Jvm.FP.dadd a b) :=
  own_add ha.1 hb.1 h (by omega) (by rw [ha.2, hb.2, Int.add_mul])
theorem Dy.neg {n : Int} {k : Nat} {a : UInt64} (ha : Dy n k a) : Dy (-n) k (Jvm.FP.dneg a) := ⟨own_fin_neg ha.1, by rw [own_z_neg, ha.2, Int.neg_mul]⟩
theorem Dy.sub {n m : Int} {k : Nat} {a b : UInt64} (ha : Dy n k a) (hb : Dy m k b) (h : (n - m).natAbs < 2 ^ 53) : Dy (n - m) k (Jvm.FP.dsub a b) := by
  rw [own_sub_eq hb.1]; exact Dy.add ha hb.neg (by rw [← Int.sub_eq_add_neg]; exact h)
theorem own_pow {k : Nat} (h : k ≤ 1074) : ((2 ^ (1074 - k) : Nat) : Int) * ((2 ^ k : Nat) : Int) = ((2 ^ 1074 : Nat) : Int) := by
  rw [← Int.natCast_mul, ← Nat.pow_add, Nat.sub_add_cancel h]
theorem own_pow_pos (k : Nat) : (0 : Int) < ((2 ^ k : Nat) : Int) := by exact_mod_cast Nat.two_pow_pos k
theorem Dy.conv {n m : Int} {k l : Nat} {a : UInt64} (ha : Dy n k a) (hk : k ≤ 1074) (hl : l ≤ 1074) (h : n * ((2 ^ l : Nat) : Int) = m * ((2 ^ k : Nat) : Int)) : Dy m l a := by
  refine ⟨ha.1, ?_⟩
  have e1 := own_pow hk
  have e2 := own_pow hl
  have p1 := own_pow_pos k
  have p2 := own_pow_pos l
  rw [ha.2]
  generalize ((2 ^ (1074 - k) : Nat) : Int) = A at *
  generalize ((2 ^ (1074 - l) : Nat) : Int) = B at *
  generalize ((2 ^ k : Nat) : Int) = K at *
  generalize ((2 ^ l : Nat) : Int) = L at *
  refine Int.eq_of_mul_eq_mul_right (Int.ne_of_gt (Int.mul_pos p1 p2)) ?_
  calc n * A * (K * L) = n * L * (A * K) := by ac_rfl
    _ = m * K * (B * L) := by rw [h, e1, e2]
    _ = m * B * (K * L) := by ac_rfl
theorem Dy.mul {n m : Int} {k l : Nat} {a b : UInt64} (ha : Dy n k a) (hb : Dy m l b) (hk : k + l ≤ 1074) (h : (n * m).natAbs < 2 ^ 53) : Dy (n * m) (k + l) (Jvm.FP.dmul a b) := by
  refine own_mul ha.1 hb.1 h (by omega) ?_
  rw [ha.2, hb.2]
  have e1 : ((2 ^ (1074 - k) : Nat) : Int) * ((2 ^ (1074 - l) : Nat) : Int) = ((2 ^ (1074 - (k + l)) : Nat) : Int) * ((2 ^ 1074 : Nat) : Int) := by
    rw [← Int.natCast_mul, ← Int.natCast_mul, ← Nat.pow_add, ← Nat.pow_add]
    congr 2; omega
  generalize ((2 ^ (1074 - k) : Nat) : Int) = A at *
  generalize ((2 ^ (1074 - l) : Nat) : Int) = B at *
  generalize ((2 ^ (1074 - (k + l)) : Nat) : Int) = C at *
  generalize ((2 ^ 1074 : Nat) : Int) = O at *
  calc n * A * (m * B) = n * m * (A * B) := by ac_rfl
    _ = n * m * C * O := by rw [e1]; ac_rfl
theorem Dy.mulx {n m N : Int} {k l r : Nat} {a b : UInt64} (ha : Dy n k a) (hb : Dy m l b) (hk : k ≤ 1074) (hl : l ≤ 1074) (hr : r ≤ 1074)
    (h : n * m * ((2 ^ r : Nat) : Int) = N * ((2 ^ k : Nat) : Int) * ((2 ^ l : Nat) : Int)) (hN : N.natAbs < 2 ^ 53) : Dy N r (Jvm.FP.dmul a b) := by
  refine own_mul ha.1 hb.1 hN (by omega) ?_
  rw [ha.2, hb.2]
  have e1 := own_pow hk
  have e2 := own_pow hl
  have e3 := own_pow hr
  have p1 := own_pow_pos k
  have p2 := own_pow_pos l
  have p3 := own_pow_pos r
  generalize ((2 ^ 1074 : Nat) : Int) = O at *
  generalize ((2 ^ (1074 - k) : Nat) : Int) = A at *
  generalize ((2 ^ (1074 - l) : Nat) : Int) = B at *
  generalize ((2 ^ (1074 - r) : Nat) : Int) = C at *
  generalize ((2 ^ k : Nat) : Int) = K at *
  generalize ((2 ^ l : Nat) : Int) = L at *
  generalize ((2 ^ r : Nat) : Int) = R at *
  refine Int.eq_of_mul_eq_mul_right (Int.ne_of_gt (Int.mul_pos p1 (Int.mul_pos p2 p3))) ?_
  calc n * A * (m * B) * (K * (L * R)) = n * m * R * ((A * K) * (B * L)) := by ac_rfl
    _ = N * K * L * (O * (C * R)) := by rw [h, e1, e2, e3]
    _ = N * C * O * (K * (L * R)) := by ac_rfl
theorem Dy.pos {n : Int} {k : Nat} {a : UInt64} (ha : Dy n k a) (h : 0 < n) : 0 < own_z a := by rw [ha.2]; exact Int.mul_pos h (own_pow_pos _)
theorem Dy.div {n m N : Int} {k l r : Nat} {a b : UInt64} (ha : Dy n k a) (hb : Dy m l b) (hm : 0 < m) (hk : k ≤ 1074) (hl : l ≤ 1074) (hr : r ≤ 1074)
    (h : n * ((2 ^ l : Nat) : Int) * ((2 ^ r : Nat) : Int) = N * m * ((2 ^ k : Nat) : Int)) (hN : N.natAbs < 2 ^ 53) : Dy N r (Jvm.FP.ddiv a b) := by
  refine own_div ha.1 hb.1 (hb.pos hm) hN (by omega) ?_
  rw [ha.2, hb.2]
  have e1 := own_pow hk
  have e2 := own_pow hl
  have e3 := own_pow hr
  have p1 := own_pow_pos k
  have p2 := own_pow_pos l
  have p3 := own_pow_pos r
  generalize ((2 ^ 1074 : Nat) : Int) = O at *
  generalize ((2 ^ (1074 - k) : Nat) : Int) = A at *
  generalize ((2 ^ (1074 - l) : Nat) : Int) = B at *
  generalize ((2 ^ (1074 - r) : Nat) : Int) = C at *
  generalize ((2 ^ k : Nat) : Int) = K at *
  generalize ((2 ^ l : Nat) : Int) = L at *
  generalize ((2 ^ r : Nat) : Int) = R at *
  refine Int.eq_of_mul_eq_mul_right (Int.ne_of_gt (Int.mul_pos p1 (Int.mul_pos p2 p3))) ?_
  calc n * A * O * (K * (L * R)) = n * L * R * (A * K) * O := by ac_rfl
    _ = N * m * K * (C * R) * (B * L) := by rw [h, e1, e2, e3]
    _ = N * C * (m * B) * (K * (L * R)) := by ac_rfl
theorem Dy.same {n m n' m' : Int} {k l k' l' : Nat} {a b a' b' : UInt64} (ha : Dy n k a) (hb : Dy m l b) (ha' : Dy n' k' a') (hb' : Dy m' l' b') (pn : 0 < n) (pm : 0 < m) (pn' : 0 < n') (pm' : 0 < m')
    (hk : k ≤ 1074) (hl : l ≤ 1074) (hk' : k' ≤ 1074) (hl' : l' ≤ 1074)
    (h : n * m' * ((2 ^ l : Nat) : Int) * ((2 ^ k' : Nat) : Int) = n' * m * ((2 ^ l' : Nat) : Int) * ((2 ^ k : Nat) : Int)) : Jvm.FP.ddiv a b = Jvm.FP.ddiv a' b' := by
  refine own_div_same ha.1 hb.1 ha'.1 hb'.1 (ha.pos pn) (hb.pos pm) (ha'.pos pn') (hb'.pos pm') ?_
  rw [ha.2, hb.2, ha'.2, hb'.2]
  have e1 := own_pow hk
  have e2 := own_pow hl
  have e3 := own_pow hk'
  have e4 := own_pow hl'
  have p1 := own_pow_pos k
  have p2 := own_pow_pos l
  have p3 := own_pow_pos k'
  have p4 := own_pow_pos l'
  generalize ((2 ^ 1074 : Nat) : Int) = O at *
  generalize ((2 ^ (1074 - k) : Nat) : Int) = A at *
  generalize ((2 ^ (1074 - l) : Nat) : Int) = B at *
  generalize ((2 ^ (1074 - k') : Nat) : Int) = A' at *
  generalize ((2 ^ (1074 - l') : Nat) : Int) = B' at *
  generalize ((2 ^ k : Nat) : Int) = K at *
  generalize ((2 ^ l : Nat) : Int) = L at *
  generalize ((2 ^ k' : Nat) : Int) = K' at *
  generalize ((2 ^ l' : Nat) : Int) = L' at *
  refine Int.eq_of_mul_eq_mul_right (Int.ne_of_gt (Int.mul_pos (Int.mul_pos p1 p2) (Int.mul_pos p3 p4))) ?_
  calc n * A * (m' * B') * (K * L * (K' * L')) = n * m' * L * K' * ((A * K) * (B' * L')) := by ac_rfl
    _ = n' * m * L' * K * ((A' * K') * (B * L)) := by rw [h, e1, e2, e3, e4]
    _ = n' * A' * (m * B) * (K * L * (K' * L')) := by ac_rfl
theorem Dy.cmp {n m : Int} {k : Nat} {a b : UInt64} (ha : Dy n k a) (hb : Dy m k b) (o : Jvm.ClassFile.CmpOp) :
    Jvm.Op.cmpValue (Jvm.FP.dcmp a b) o = if n < m then -1 else if n = m then 0 else 1 := by
  rw [own_cmp_int ha.1.ne_nan hb.1.ne_nan, ha.2, hb.2]
  have p := own_pow_pos (1074 - k)
  generalize ((2 ^ (1074 - k) : Nat) : Int) = A at *
  have e1 : (n * A < m * A) ↔ n < m := ⟨fun q => Int.lt_of_mul_lt_mul_right q (Int.le_of_lt p), fun q => Int.mul_lt_mul_of_pos_right q p⟩
  have e2 : (n * A = m * A) ↔ n = m := ⟨fun q => Int.eq_of_mul_eq_mul_right (Int.ne_of_gt p) q, fun q => by rw [q]⟩
  simp only [e1, e2]
theorem Dy.div_le {n m N : Int} {k r : Nat} {a b : UInt64} (ha : Dy n k a) (hb : Dy m k b) (hm : 0 < m) (hr : r ≤ 1074) (hN : N.natAbs < 2 ^ 53)
    (h : n * ((2 ^ r : Nat) : Int) ≤ N * m) : own_z (Jvm.FP.ddiv a b) ≤ N * ((2 ^ (1074 - r) : Nat) : Int) := by
  refine own_div_le ha.1 hb.1 (hb.pos hm) hN (by omega) ?_
  rw [ha.2, hb.2, ← own_pow hr]
  have p1 := own_pow_pos (1074 - k)
  have p2 := own_pow_pos (1074 - r)
  generalize ((2 ^ (1074 - k) : Nat) : Int) = A at *
  generalize ((2 ^ (1074 - r) : Nat) : Int) = C at *
  generalize ((2 ^ r : Nat) : Int) = R at *
  have q := Int.mul_le_mul_of_nonneg_right h (Int.le_of_lt (Int.mul_pos p1 p2))
  calc n * A * (C * R) = n * R * (A * C) := by ac_rfl
    _ ≤ N * m * (A * C) := q
    _ = N * C * (m * A) := by ac_rfl
theorem Dy.div_ge {n m N : Int} {k r : Nat} {a b : UInt64} (ha : Dy n k a) (hb : Dy m k b) (hm : 0 < m) (hr : r ≤ 1074) (hN : N.natAbs < 2 ^ 53)
    (h : N * m ≤ n * ((2 ^ r : Nat) : Int)) : N * ((2 ^ (1074 - r) : Nat) : Int) ≤ own_z (Jvm.FP.ddiv a b) := by
  refine own_div_ge ha.1 hb.1 (hb.pos hm) hN (by omega) ?_
  rw [ha.2, hb.2, ← own_pow hr]
  have p1 := own_pow_pos (1074 - k)
  have p2 := own_pow_pos (1074 - r)
  generalize ((2 ^ (1074 - k) : Nat) : Int) = A at *
  generalize ((2 ^ (1074 - r) : Nat) : Int) = C at *
  generalize ((2 ^ r : Nat) : Int) = R at *
  have q := Int.mul_le_mul_of_nonneg_right h (Int.le_of_lt (Int.mul_pos p1 p2))
  calc N * C * (m * A) = N * m * (A * C) := by ac_rfl
    _ ≤ n * R * (A * C) := q
    _ = n * A * (C * R) := by ac_rfl
theorem Dy.div_nn {n m : Int} {k l : Nat} {a b : UInt64} (ha : Dy n k a) (hb : Dy m l b) (hm : 0 < m) : val64 (Jvm.FP.ddiv a b) ≠ .nan :=
  own_div_nn ha.1 hb.1 (Int.ne_of_gt (hb.pos hm))
theorem own_fin64 {a : UInt64} (h : DFin a) : Jvm.Free.Fl.Fin64 a := Jvm.Free.Fl.fin64_core.mpr h
theorem own_nz64 {a : UInt64} (h : DFin a) (hz : own_z a ≠ 0) : Jvm.Free.Fl.Nz64 a := Jvm.Free.Fl.nz64_core.mpr (dnot_zero h.ne_nan hz)
theorem own_nn' {a : UInt64} (h : val64 a ≠ .nan) : Jvm.Free.Fl.NoNaN64 a := Jvm.Free.Fl.noNaN64_no.mpr ((notNaN_iff a).mpr h)
theorem own_c_lt (P Q : Prop) [Decidable P] [Decidable Q] : (if P then (-1 : Int32) else if Q then 0 else 1) < (0 : Int32) ↔ P := by
  by_cases h : P
  · rw [if_pos h]; exact ⟨fun _ => h, fun _ => by decide⟩
  · rw [if_neg h]
    by_cases h2 : Q
    · rw [if_pos h2]; exact ⟨fun q => absurd q (by decide), fun q => absurd q h⟩
    · rw [if_neg h2]; exact ⟨fun q => absurd q (by decide), fun q => absurd q h⟩
theorem own_c_gt (P Q : Prop) [Decidable P] [Decidable Q] : (0 : Int32) < (if P then (-1 : Int32) else if Q then 0 else 1) ↔ ¬ P ∧ ¬ Q := by
  by_cases h : P
  · rw [if_pos h]; exact ⟨fun q => absurd q (by decide), fun q => absurd h q.1⟩
  · rw [if_neg h]
    by_cases h2 : Q
    · rw [if_pos h2]; exact ⟨fun q => absurd q (by decide), fun q => absurd h2 q.2⟩
    · rw [if_neg h2]; exact ⟨fun _ => ⟨h, h2⟩, fun _ => by decide⟩
theorem own_c_eq (P Q : Prop) [Decidable P] [Decidable Q] : (if P then (-1 : Int32) else if Q then 0 else 1) = (0 : Int32) ↔ ¬ P ∧ Q := by
  by_cases h : P
  · rw [if_pos h]; exact ⟨fun q => absurd q (by decide), fun q => absurd h q.1⟩
  · rw [if_neg h]
    by_cases h2 : Q
    · rw [if_pos h2]; exact ⟨fun _ => ⟨h, h2⟩, fun _ => rfl⟩
    · rw [if_neg h2]; exact ⟨fun q => absurd q (by decide), fun q => absurd q.2 h2⟩
theorem own_lt0 {a b : UInt64} (ha : val64 a ≠ .nan) (hb : val64 b ≠ .nan) (o : Jvm.ClassFile.CmpOp) : Jvm.Op.cmpValue (Jvm.FP.dcmp a b) o < (0 : Int32) ↔ own_z a < own_z b := by
  rw [own_cmp_int ha hb]; exact own_c_lt _ _
theorem own_gt0 {a b : UInt64} (ha : val64 a ≠ .nan) (hb : val64 b ≠ .nan) (o : Jvm.ClassFile.CmpOp) : (0 : Int32) < Jvm.Op.cmpValue (Jvm.FP.dcmp a b) o ↔ own_z b < own_z a := by
  rw [own_cmp_int ha hb, own_c_gt]; omega
theorem own_eq0 {a b : UInt64} (ha : val64 a ≠ .nan) (hb : val64 b ≠ .nan) (o : Jvm.ClassFile.CmpOp) : Jvm.Op.cmpValue (Jvm.FP.dcmp a b) o = (0 : Int32) ↔ own_z a = own_z b := by
  rw [own_cmp_int ha hb, own_c_eq]; omega
theorem Dy.lt0 {n m : Int} {k : Nat} {a b : UInt64} (ha : Dy n k a) (hb : Dy m k b) (o : Jvm.ClassFile.CmpOp) : Jvm.Op.cmpValue (Jvm.FP.dcmp a b) o < (0 : Int32) ↔ n < m := by
  rw [ha.cmp hb]; exact own_c_lt _ _
theorem Dy.gt0 {n m : Int} {k : Nat} {a b : UInt64} (ha : Dy n k a) (hb : Dy m k b) (o : Jvm.ClassFile.CmpOp) : (0 : Int32) < Jvm.Op.cmpValue (Jvm.FP.dcmp a b) o ↔ m < n := by
  rw [ha.cmp hb, own_c_gt]; omega
theorem Dy.eq0 {n m : Int} {k : Nat} {a b : UInt64} (ha : Dy n k a) (hb : Dy m k b) (o : Jvm.ClassFile.CmpOp) : Jvm.Op.cmpValue (Jvm.FP.dcmp a b) o = (0 : Int32) ↔ n = m := by
  rw [ha.cmp hb, own_c_eq]; omega
theorem Dy.zero (k : Nat) : Dy 0 k Jvm.FP.dconst0 := ⟨⟨false, 0, b64.qmin, val64_dconst0⟩, by rw [Int.zero_mul]; exact zval64_zero⟩
theorem Dy.one : Dy 1 0 Jvm.FP.dconst1 := ⟨⟨false, 2 ^ 52, -52, val64_dconst1⟩, by rw [Int.one_mul]; exact (DInt_zval dint_one).trans (Int.one_mul _)⟩
theorem Dy.d2l {n : Int} {a : UInt64} (ha : Dy n 0 a) (h0 : 0 ≤ n) (h1 : n < 2 ^ 63) : (Jvm.FP.d2l a).toInt = n := by
  rw [show (Jvm.FP.d2l a).toInt = _ from d2l_val ha.1.ne_nan]
  have e : (own_z a).natAbs = zmag b64 (val64 a) := own_zabs _
  have e2 : own_z a = n * ((2 ^ 1074 : Nat) : Int) := ha.2
  have e3 : zmag b64 (val64 a) = n.natAbs * one64 := by rw [← e, e2, Int.natAbs_mul, Int.natAbs_natCast]; rfl
  rw [e3, Nat.mul_div_cancel _ one64_pos]
  by_cases hz : n = 0
  · subst hz
    rw [show (0 : Int).natAbs = 0 from rfl, signed_zero]; decide
  · rw [own_sgn_pos (ha.pos (by omega)), show signed false n.natAbs = (n.natAbs : Int) from rfl]
    omega
theorem Dy.up {n m : Int} {k l : Nat} {a : UInt64} (ha : Dy n k a) (j : Nat) (hl : l = k + j) (h : l ≤ 1074) (hm : m = n * ((2 ^ j : Nat) : Int)) : Dy m l a := by
  refine ha.conv (by omega) h ?_
  subst hl hm
  rw [Nat.pow_add, Int.natCast_mul]
  ac_rfl
end OwnFl
open Jvm Jvm.ClassFile Sem Op Lib Jvm.Free Jvm.Stand Jvm.LawKit Jvm.RoadKit Bundle Jvm.Pilot.@@N@@.Jvm.D
section OwnSt
theorem s_iload {tb : Tables} [Ours tb] {e : Env} {below : List Frame} {T target : State} {m : MethodId} {c : Code} (h : At T m c below) (hx : tb.exec = Jvm.exec) {pc : Nat} {Ls : Array Slot} {S : List Value} {k : Nat} {v : Int32} (hd : decode c.code pc = .ok (.iload k, 2)) (hl : Ls[k]? = some (.val (.int v))) (hr : Steps tb e below (T.setTop (mkF m (pc + 2) Ls (.int v :: S))) target) : Steps tb e below (T.setTop (mkF m pc Ls S)) target := XS.iload h hx rfl hd hl hr
theorem s_iloadN {tb : Tables} [Ours tb] {e : Env} {below : List Frame} {T target : State} {m : MethodId} {c : Code} (h : At T m c below) (hx : tb.exec = Jvm.exec) {pc : Nat} {Ls : Array Slot} {S : List Value} {k : Fin 4} {v : Int32} (hd : decode c.code pc = .ok (.iload_n k, 1)) (hl : Ls[k.val]? = some (.val (.int v))) (hr : Steps tb e below (T.setTop (mkF m (pc + 1) Ls (.int v :: S))) target) : Steps tb e below (T.setTop (mkF m pc Ls S)) target := XS.iloadN h hx rfl hd hl hr
theorem s_lload {tb : Tables} [Ours tb] {e : Env} {below : List Frame} {T target : State} {m : MethodId} {c : Code} (h : At T m c below) (hx : tb.exec = Jvm.exec) {pc : Nat} {Ls : Array Slot} {S : List Value} {k : Nat} {v : Int64} (hd : decode c.code pc = .ok (.lload k, 2)) (hl : Ls[k]? = some (.val (.long v))) (hr : Steps tb e below (T.setTop (mkF m (pc + 2) Ls (.long v :: S))) target) : Steps tb e below (T.setTop (mkF m pc Ls S)) target := XS.lload h hx rfl hd hl hr
theorem s_lloadN {tb : Tables} [Ours tb] {e : Env} {below : List Frame} {T target : State} {m : MethodId} {c : Code} (h : At T m c below) (hx : tb.exec = Jvm.exec) {pc : Nat} {Ls : Array Slot} {S : List Value} {k : Fin 4} {v : Int64} (hd : decode c.code pc = .ok (.lload_n k, 1)) (hl : Ls[k.val]? = some (.val (.long v))) (hr : Steps tb e below (T.setTop (mkF m (pc + 1) Ls (.long v :: S))) target) : Steps tb e below (T.setTop (mkF m pc Ls S)) target := XS.lloadN h hx rfl hd hl hr
theorem s_dload {tb : Tables} [Ours tb] {e : Env} {below : List Frame} {T target : State} {m : MethodId} {c : Code} (h : At T m c below) (hx : tb.exec = Jvm.exec) {pc : Nat} {Ls : Array Slot} {S : List Value} {k : Nat} {v : UInt64} (hd : decode c.code pc = .ok (.dload k, 2)) (hl : Ls[k]? = some (.val (.double v))) (hr : Steps tb e below (T.setTop (mkF m (pc + 2) Ls (.double v :: S))) target) : Steps tb e below (T.setTop (mkF m pc Ls S)) target := XS.dload h hx rfl hd hl hr
theorem s_dloadN {tb : Tables} [Ours tb] {e : Env} {below : List Frame} {T target : State} {m : MethodId} {c : Code} (h : At T m c below) (hx : tb.exec = Jvm.exec) {pc : Nat} {Ls : Array Slot} {S : List Value} {k : Fin 4} {v : UInt64} (hd : decode c.code pc = .ok (.dload_n k, 1)) (hl : Ls[k.val]? = some (.val (.double v))) (hr : Steps tb e below (T.setTop (mkF m (pc + 1) Ls (.double v :: S))) target) : Steps tb e below (T.setTop (mkF m pc Ls S)) target := XS.dloadN h hx rfl hd hl hr
theorem s_aload {tb : Tables} [Ours tb] {e : Env} {below : List Frame} {T target : State} {m : MethodId} {c : Code} (h : At T m c below) (hx : tb.exec = Jvm.exec) {pc : Nat} {Ls : Array Slot} {S : List Value} {k : Nat} {a : Addr} (hd : decode c.code pc = .ok (.aload k, 2)) (hl : Ls[k]? = some (.val (.ref a))) (hr : Steps tb e below (T.setTop (mkF m (pc + 2) Ls (.ref a :: S))) target) : Steps tb e below (T.setTop (mkF m pc Ls S)) target := XS.aload h hx rfl hd hl rfl hr
theorem s_aloadN {tb : Tables} [Ours tb] {e : Env} {below : List Frame} {T target : State} {m : MethodId} {c : Code} (h : At T m c below) (hx : tb.exec = Jvm.exec) {pc : Nat} {Ls : Array Slot} {S : List Value} {k : Fin 4} {a : Addr} (hd : decode c.code pc = .ok (.aload_n k, 1)) (hl : Ls[k.val]? = some (.val (.ref a))) (hr : Steps tb e below (T.setTop (mkF m (pc + 1) Ls (.ref a :: S))) target) : Steps tb e below (T.setTop (mkF m pc Ls S)) target := XS.aloadN h hx rfl hd hl rfl hr
theorem s_istore {tb : Tables} [Ours tb] {e : Env} {below : List Frame} {T target : State} {m : MethodId} {c : Code} (h : At T m c below) (hx : tb.exec = Jvm.exec) {pc : Nat} {Ls : Array Slot} {S : List Value} {k : Nat} {v : Int32} {l' : Array Slot} (hd : decode c.code pc = .ok (.istore k, 2)) (hl : storeLocals Ls k (.int v) = some l') (hr : Steps tb e below (T.setTop (mkF m (pc + 2) l' S)) target) : Steps tb e below (T.setTop (mkF m pc Ls (.int v :: S))) target := XS.istore h hx rfl hd rfl hl hr
theorem s_istoreN {tb : Tables} [Ours tb] {e : Env} {below : List Frame} {T target : State} {m : MethodId} {c : Code} (h : At T m c below) (hx : tb.exec = Jvm.exec) {pc : Nat} {Ls : Array Slot} {S : List Value} {k : Fin 4} {v : Int32} {l' : Array Slot} (hd : decode c.code pc = .ok (.istore_n k, 1)) (hl : storeLocals Ls k.val (.int v) = some l') (hr : Steps tb e below (T.setTop (mkF m (pc + 1) l' S)) target) : Steps tb e below (T.setTop (mkF m pc Ls (.int v :: S))) target := XS.istoreN h hx rfl hd rfl hl hr
theorem s_lstore {tb : Tables} [Ours tb] {e : Env} {below : List Frame} {T target : State} {m : MethodId} {c : Code} (h : At T m c below) (hx : tb.exec = Jvm.exec) {pc : Nat} {Ls : Array Slot} {S : List Value} {k : Nat} {v : Int64} {l' : Array Slot} (hd : decode c.code pc = .ok (.lstore k, 2)) (hl : storeLocals Ls k (.long v) = some l') (hr : Steps tb e below (T.setTop (mkF m (pc + 2) l' S)) target) : Steps tb e below (T.setTop (mkF m pc Ls (.long v :: S))) target := XS.lstore h hx rfl hd rfl hl hr
theorem s_lstoreN {tb : Tables} [Ours tb] {e : Env} {below : List Frame} {T target : State} {m : MethodId} {c : Code} (h : At T m c below) (hx : tb.exec = Jvm.exec) {pc : Nat} {Ls : Array Slot} {S : List Value} {k : Fin 4} {v : Int64} {l' : Array Slot} (hd : decode c.code pc = .ok (.lstore_n k, 1)) (hl : storeLocals Ls k.val (.long v) = some l') (hr : Steps tb e below (T.setTop (mkF m (pc + 1) l' S)) target) : Steps tb e below (T.setTop (mkF m pc Ls (.long v :: S))) target := XS.lstoreN h hx rfl hd rfl hl hr
theorem s_dstore {tb : Tables} [Ours tb] {e : Env} {below : List Frame} {T target : State} {m : MethodId} {c : Code} (h : At T m c below) (hx : tb.exec = Jvm.exec) {pc : Nat} {Ls : Array Slot} {S : List Value} {k : Nat} {v : UInt64} {l' : Array Slot} (hd : decode c.code pc = .ok (.dstore k, 2)) (hl : storeLocals Ls k (.double v) = some l') (hr : Steps tb e below (T.setTop (mkF m (pc + 2) l' S)) target) : Steps tb e below (T.setTop (mkF m pc Ls (.double v :: S))) target := XS.dstore h hx rfl hd rfl hl hr
theorem s_dstoreN {tb : Tables} [Ours tb] {e : Env} {below : List Frame} {T target : State} {m : MethodId} {c : Code} (h : At T m c below) (hx : tb.exec = Jvm.exec) {pc : Nat} {Ls : Array Slot} {S : List Value} {k : Fin 4} {v : UInt64} {l' : Array Slot} (hd : decode c.code pc = .ok (.dstore_n k, 1)) (hl : storeLocals Ls k.val (.double v) = some l') (hr : Steps tb e below (T.setTop (mkF m (pc + 1) l' S)) target) : Steps tb e below (T.setTop (mkF m pc Ls (.double v :: S))) target := XS.dstoreN h hx rfl hd rfl hl hr
theorem s_astore {tb : Tables} [Ours tb] {e : Env} {below : List Frame} {T target : State} {m : MethodId} {c : Code} (h : At T m c below) (hx : tb.exec = Jvm.exec) {pc : Nat} {Ls : Array Slot} {S : List Value} {k : Nat} {a : Addr} {l' : Array Slot} (hd : decode c.code pc = .ok (.astore k, 2)) (hl : storeLocals Ls k (.ref a) = some l') (hr : Steps tb e below (T.setTop (mkF m (pc + 2) l' S)) target) : Steps tb e below (T.setTop (mkF m pc Ls (.ref a :: S))) target := XS.astore h hx rfl hd rfl rfl hl hr
theorem s_astoreN {tb : Tables} [Ours tb] {e : Env} {below : List Frame} {T target : State} {m : MethodId} {c : Code} (h : At T m c below) (hx : tb.exec = Jvm.exec) {pc : Nat} {Ls : Array Slot} {S : List Value} {k : Fin 4} {a : Addr} {l' : Array Slot} (hd : decode c.code pc = .ok (.astore_n k, 1)) (hl : storeLocals Ls k.val (.ref a) = some l') (hr : Steps tb e below (T.setTop (mkF m (pc + 1) l' S)) target) : Steps tb e below (T.setTop (mkF m pc Ls (.ref a :: S))) target := XS.astoreN h hx rfl hd rfl rfl hl hr
theorem s_iconst {tb : Tables} [Ours tb] {e : Env} {below : List Frame} {T target : State} {m : MethodId} {c : Code} (h : At T m c below) (hx : tb.exec = Jvm.exec) {pc : Nat} {Ls : Array Slot} {S : List Value} {i : Int} {v : Int32} (hd : decode c.code pc = .ok (.iconst i, 1)) (hv : Int32.ofInt i = v) (hr : Steps tb e below (T.setTop (mkF m (pc + 1) Ls (.int v :: S))) target) : Steps tb e below (T.setTop (mkF m pc Ls S)) target := XS.iconst h hx rfl hd (hv ▸ hr)
theorem s_bipush {tb : Tables} [Ours tb] {e : Env} {below : List Frame} {T target : State} {m : MethodId} {c : Code} (h : At T m c below) (hx : tb.exec = Jvm.exec) {pc : Nat} {Ls : Array Slot} {S : List Value} {i : Int} {v : Int32} (hd : decode c.code pc = .ok (.bipush i, 2)) (hv : (Int8.ofInt i).toInt32 = v) (hr : Steps tb e below (T.setTop (mkF m (pc + 2) Ls (.int v :: S))) target) : Steps tb e below (T.setTop (mkF m pc Ls S)) target := XS.bipush h hx rfl hd (hv ▸ hr)
theorem s_sipush {tb : Tables} [Ours tb] {e : Env} {below : List Frame} {T target : State} {m : MethodId} {c : Code} (h : At T m c below) (hx : tb.exec = Jvm.exec) {pc : Nat} {Ls : Array Slot} {S : List Value} {i : Int} {v : Int32} (hd : decode c.code pc = .ok (.sipush i, 3)) (hv : (Int16.ofInt i).toInt32 = v) (hr : Steps tb e below (T.setTop (mkF m (pc + 3) Ls (.int v :: S))) target) : Steps tb e below (T.setTop (mkF m pc Ls S)) target := XS.sipush h hx rfl hd (hv ▸ hr)
theorem s_iadd {tb : Tables} [Ours tb] {e : Env} {below : List Frame} {T target : State} {m : MethodId} {c : Code} (h : At T m c below) (hx : tb.exec = Jvm.exec) {pc : Nat} {Ls : Array Slot} {S : List Value} {x y v : Int32} (hd : decode c.code pc = .ok (.iadd, 1)) (hv : x + y = v) (hr : Steps tb e below (T.setTop (mkF m (pc + 1) Ls (.int v :: S))) target) : Steps tb e below (T.setTop (mkF m pc Ls (.int y :: .int x :: S))) target := XS.iadd h hx rfl hd rfl (hv ▸ hr)
theorem s_isub {tb : Tables} [Ours tb] {e : Env} {below : List Frame} {T target : State} {m : MethodId} {c : Code} (h : At T m c below) (hx : tb.exec = Jvm.exec) {pc : Nat} {Ls : Array Slot} {S : List Value} {x y v : Int32} (hd : decode c.code pc = .ok (.isub, 1)) (hv : x - y = v) (hr : Steps tb e below (T.setTop (mkF m (pc + 1) Ls (.int v :: S))) target) : Steps tb e below (T.setTop (mkF m pc Ls (.int y :: .int x :: S))) target := XS.isub h hx rfl hd rfl (hv ▸ hr)
theorem s_iand {tb : Tables} [Ours tb] {e : Env} {below : List Frame} {T target : State} {m : MethodId} {c : Code} (h : At T m c below) (hx : tb.exec = Jvm.exec) {pc : Nat} {Ls : Array Slot} {S : List Value} {x y v : Int32} (hd : decode c.code pc = .ok (.iand, 1)) (hv : x &&& y = v) (hr : Steps tb e below (T.setTop (mkF m (pc + 1) Ls (.int v :: S))) target) : Steps tb e below (T.setTop (mkF m pc Ls (.int y :: .int x :: S))) target := XS.iand h hx rfl hd rfl (hv ▸ hr)
theorem s_ladd {tb : Tables} [Ours tb] {e : Env} {below : List Frame} {T target : State} {m : MethodId} {c : Code} (h : At T m c below) (hx : tb.exec = Jvm.exec) {pc : Nat} {Ls : Array Slot} {S : List Value} {x y v : Int64} (hd : decode c.code pc = .ok (.ladd, 1)) (hv : x + y = v) (hr : Steps tb e below (T.setTop (mkF m (pc + 1) Ls (.long v :: S))) target) : Steps tb e below (T.setTop (mkF m pc Ls (.long y :: .long x :: S))) target := XS.ladd h hx rfl hd rfl (hv ▸ hr)
theorem s_lsub {tb : Tables} [Ours tb] {e : Env} {below : List Frame} {T target : State} {m : MethodId} {c : Code} (h : At T m c below) (hx : tb.exec = Jvm.exec) {pc : Nat} {Ls : Array Slot} {S : List Value} {x y v : Int64} (hd : decode c.code pc = .ok (.lsub, 1)) (hv : x - y = v) (hr : Steps tb e below (T.setTop (mkF m (pc + 1) Ls (.long v :: S))) target) : Steps tb e below (T.setTop (mkF m pc Ls (.long y :: .long x :: S))) target := XS.lsub h hx rfl hd rfl (hv ▸ hr)
theorem s_i2l {tb : Tables} [Ours tb] {e : Env} {below : List Frame} {T target : State} {m : MethodId} {c : Code} (h : At T m c below) (hx : tb.exec = Jvm.exec) {pc : Nat} {Ls : Array Slot} {S : List Value} {x : Int32} (hd : decode c.code pc = .ok (.i2l, 1)) (hr : Steps tb e below (T.setTop (mkF m (pc + 1) Ls (.long x.toInt64 :: S))) target) : Steps tb e below (T.setTop (mkF m pc Ls (.int x :: S))) target := XS.i2l h hx rfl hd rfl hr
theorem s_iushr {tb : Tables} [Ours tb] {e : Env} {below : List Frame} {T target : State} {m : MethodId} {c : Code} (h : At T m c below) (hx : tb.exec = Jvm.exec) {pc : Nat} {Ls : Array Slot} {S : List Value} {x y v : Int32} (hd : decode c.code pc = .ok (.iushr, 1)) (hv : (x.toUInt32 >>> (y &&& 31).toUInt32).toInt32 = v) (hr : Steps tb e below (T.setTop (mkF m (pc + 1) Ls (.int v :: S))) target) : Steps tb e below (T.setTop (mkF m pc Ls (.int y :: .int x :: S))) target := XS.iushr h hx rfl hd rfl (hv ▸ hr)
theorem s_dup {tb : Tables} [Ours tb] {e : Env} {below : List Frame} {T target : State} {m : MethodId} {c : Code} (h : At T m c below) (hx : tb.exec = Jvm.exec) {pc : Nat} {Ls : Array Slot} {S : List Value} {x : Value} (hd : decode c.code pc = .ok (.dup, 1)) (hc : x.category = 1) (hr : Steps tb e below (T.setTop (mkF m (pc + 1) Ls (x :: x :: S))) target) : Steps tb e below (T.setTop (mkF m pc Ls (x :: S))) target := XS.dup h hx rfl hd rfl hc hr
theorem s_iinc {tb : Tables} [Ours tb] {e : Env} {below : List Frame} {T target : State} {m : MethodId} {c : Code} (h : At T m c below) (hx : tb.exec = Jvm.exec) {pc : Nat} {Ls : Array Slot} {S : List Value} {k : Nat} {i : Int} {x : Int32} {l' : Array Slot} (hd : decode c.code pc = .ok (.iinc k i, 3)) (hl : Ls[k]? = some (.val (.int x))) (hl' : storeLocals Ls k (.int (x + Int32.ofInt i)) = some l') (hr : Steps tb e below (T.setTop (mkF m (pc + 3) l' S)) target) : Steps tb e below (T.setTop (mkF m pc Ls S)) target := XS.iinc h hx rfl hd hl hl' hr
theorem s_dconst0 {tb : Tables} [Ours tb] {e : Env} {below : List Frame} {T target : State} {m : MethodId} {c : Code} (h : At T m c below) (hx : tb.exec = Jvm.exec) {pc : Nat} {Ls : Array Slot} {S : List Value}  (hd : decode c.code pc = .ok (.dconst 0, 1)) (hr : Steps tb e below (T.setTop (mkF m (pc + 1) Ls (.double FP.dconst0 :: S))) target) : Steps tb e below (T.setTop (mkF m pc Ls S)) target := XS.dconst0 h hx rfl hd rfl hr
theorem s_dconst1 {tb : Tables} [Ours tb] {e : Env} {below : List Frame} {T target : State} {m : MethodId} {c : Code} (h : At T m c below) (hx : tb.exec = Jvm.exec) {pc : Nat} {Ls : Array Slot} {S : List Value}  (hd : decode c.code pc = .ok (.dconst 1, 1)) (hr : Steps tb e below (T.setTop (mkF m (pc + 1) Ls (.double FP.dconst1 :: S))) target) : Steps tb e below (T.setTop (mkF m pc Ls S)) target := XS.dconst1 h hx rfl hd rfl hr
theorem s_i2d {tb : Tables} [Ours tb] {e : Env} {below : List Frame} {T target : State} {m : MethodId} {c : Code} (h : At T m c below) (hx : tb.exec = Jvm.exec) {pc : Nat} {Ls : Array Slot} {S : List Value} {x : Int32} {v : UInt64} (hd : decode c.code pc = .ok (.i2d, 1)) (hv : FP.i2d x = v) (hr : Steps tb e below (T.setTop (mkF m (pc + 1) Ls (.double v :: S))) target) : Steps tb e below (T.setTop (mkF m pc Ls (.int x :: S))) target := XS.i2dS h hx rfl hd rfl hv hr
theorem s_l2d {tb : Tables} [Ours tb] {e : Env} {below : List Frame} {T target : State} {m : MethodId} {c : Code} (h : At T m c below) (hx : tb.exec = Jvm.exec) {pc : Nat} {Ls : Array Slot} {S : List Value} {x : Int64} {v : UInt64} (hd : decode c.code pc = .ok (.l2d, 1)) (hv : FP.l2d x = v) (hr : Steps tb e below (T.setTop (mkF m (pc + 1) Ls (.double v :: S))) target) : Steps tb e below (T.setTop (mkF m pc Ls (.long x :: S))) target := XS.l2dS h hx rfl hd rfl hv hr
theorem s_dneg {tb : Tables} [Ours tb] {e : Env} {below : List Frame} {T target : State} {m : MethodId} {c : Code} (h : At T m c below) (hx : tb.exec = Jvm.exec) {pc : Nat} {Ls : Array Slot} {S : List Value} {x : UInt64} {v : UInt64} (hd : decode c.code pc = .ok (.dneg, 1)) (hv : FP.dneg x = v) (hr : Steps tb e below (T.setTop (mkF m (pc + 1) Ls (.double v :: S))) target) : Steps tb e below (T.setTop (mkF m pc Ls (.double x :: S))) target := XS.dnegS h hx rfl hd rfl hv hr
theorem s_dadd {tb : Tables} [Ours tb] {e : Env} {below : List Frame} {T target : State} {m : MethodId} {c : Code} (h : At T m c below) (hx : tb.exec = Jvm.exec) {pc : Nat} {Ls : Array Slot} {S : List Value} {x y v : UInt64} (hd : decode c.code pc = .ok (.dadd, 1)) (hn : Jvm.Free.Fl.NoNaN64 (FP.dadd x y)) (hv : FP.dadd x y = v) (hr : Steps tb e below (T.setTop (mkF m (pc + 1) Ls (.double v :: S))) target) : Steps tb e below (T.setTop (mkF m pc Ls (.double y :: .double x :: S))) target := XS.daddS h hx rfl hd rfl hn hv hr
theorem s_dsub {tb : Tables} [Ours tb] {e : Env} {below : List Frame} {T target : State} {m : MethodId} {c : Code} (h : At T m c below) (hx : tb.exec = Jvm.exec) {pc : Nat} {Ls : Array Slot} {S : List Value} {x y v : UInt64} (hd : decode c.code pc = .ok (.dsub, 1)) (hn : Jvm.Free.Fl.NoNaN64 (FP.dsub x y)) (hv : FP.dsub x y = v) (hr : Steps tb e below (T.setTop (mkF m (pc + 1) Ls (.double v :: S))) target) : Steps tb e below (T.setTop (mkF m pc Ls (.double y :: .double x :: S))) target := XS.dsubS h hx rfl hd rfl hn hv hr
theorem s_dmul {tb : Tables} [Ours tb] {e : Env} {below : List Frame} {T target : State} {m : MethodId} {c : Code} (h : At T m c below) (hx : tb.exec = Jvm.exec) {pc : Nat} {Ls : Array Slot} {S : List Value} {x y v : UInt64} (hd : decode c.code pc = .ok (.dmul, 1)) (hn : Jvm.Free.Fl.NoNaN64 (FP.dmul x y)) (hv : FP.dmul x y = v) (hr : Steps tb e below (T.setTop (mkF m (pc + 1) Ls (.double v :: S))) target) : Steps tb e below (T.setTop (mkF m pc Ls (.double y :: .double x :: S))) target := XS.dmulS h hx rfl hd rfl hn hv hr
theorem s_ddiv {tb : Tables} [Ours tb] {e : Env} {below : List Frame} {T target : State} {m : MethodId} {c : Code} (h : At T m c below) (hx : tb.exec = Jvm.exec) {pc : Nat} {Ls : Array Slot} {S : List Value} {x y v : UInt64} (hd : decode c.code pc = .ok (.ddiv, 1)) (hn : Jvm.Free.Fl.NoNaN64 (FP.ddiv x y)) (hv : FP.ddiv x y = v) (hr : Steps tb e below (T.setTop (mkF m (pc + 1) Ls (.double v :: S))) target) : Steps tb e below (T.setTop (mkF m pc Ls (.double y :: .double x :: S))) target := XS.ddivS h hx rfl hd rfl hn hv hr
theorem s_dcmp {tb : Tables} [Ours tb] {e : Env} {below : List Frame} {T target : State} {m : MethodId} {c : Code} (h : At T m c below) (hx : tb.exec = Jvm.exec) {pc : Nat} {Ls : Array Slot} {S : List Value} {o : CmpOp} {x y : UInt64} {v : Int32} (hd : decode c.code pc = .ok (.dcmp o, 1)) (hv : cmpValue (FP.dcmp x y) o = v) (hr : Steps tb e below (T.setTop (mkF m (pc + 1) Ls (.int v :: S))) target) : Steps tb e below (T.setTop (mkF m pc Ls (.double y :: .double x :: S))) target := XS.dcmpS h hx rfl hd rfl hv hr
theorem s_goto {tb : Tables} [Ours tb] {e : Env} {below : List Frame} {T target : State} {m : MethodId} {c : Code} (h : At T m c below) (hx : tb.exec = Jvm.exec) {pc : Nat} {Ls : Array Slot} {S : List Value} {o : Int} {pc' : Nat} (hd : decode c.code pc = .ok (.goto o, 3)) (ho : 0 ≤ (pc : Int) + o) (hp : ((pc : Int) + o).toNat = pc') (hr : Steps tb e below (T.setTop (mkF m pc' Ls S)) target) : Steps tb e below (T.setTop (mkF m pc Ls S)) target := XS.goto h hx rfl rfl hd ho hp hr
theorem s_ifY {tb : Tables} [Ours tb] {e : Env} {below : List Frame} {T target : State} {m : MethodId} {c : Code} (h : At T m c below) (hx : tb.exec = Jvm.exec) {pc : Nat} {Ls : Array Slot} {S : List Value} {cd : ClassFile.Cond} {o : Int} {x : Int32} {pc' : Nat} (hd : decode c.code pc = .ok (.ifCond cd o, 3)) (hc : ifCond.holds cd x = true) (ho : 0 ≤ (pc : Int) + o) (hp : ((pc : Int) + o).toNat = pc') (hr : Steps tb e below (T.setTop (mkF m pc' Ls S)) target) : Steps tb e below (T.setTop (mkF m pc Ls (.int x :: S))) target := XS.ifYes h hx rfl rfl hd rfl hc ho hp hr
theorem s_ifN {tb : Tables} [Ours tb] {e : Env} {below : List Frame} {T target : State} {m : MethodId} {c : Code} (h : At T m c below) (hx : tb.exec = Jvm.exec) {pc : Nat} {Ls : Array Slot} {S : List Value} {cd : ClassFile.Cond} {o : Int} {x : Int32} (hd : decode c.code pc = .ok (.ifCond cd o, 3)) (hc : ifCond.holds cd x = false) (hr : Steps tb e below (T.setTop (mkF m (pc + 3) Ls S)) target) : Steps tb e below (T.setTop (mkF m pc Ls (.int x :: S))) target := XS.ifNo h hx rfl hd rfl hc hr
theorem s_icY {tb : Tables} [Ours tb] {e : Env} {below : List Frame} {T target : State} {m : MethodId} {c : Code} (h : At T m c below) (hx : tb.exec = Jvm.exec) {pc : Nat} {Ls : Array Slot} {S : List Value} {cd : ClassFile.Cond} {o : Int} {x y : Int32} {pc' : Nat} (hd : decode c.code pc = .ok (.if_icmp cd o, 3)) (hc : if_icmp.holds cd x y = true) (ho : 0 ≤ (pc : Int) + o) (hp : ((pc : Int) + o).toNat = pc') (hr : Steps tb e below (T.setTop (mkF m pc' Ls S)) target) : Steps tb e below (T.setTop (mkF m pc Ls (.int y :: .int x :: S))) target := XS.icmpYes h hx rfl rfl hd rfl hc ho hp hr
theorem s_icN {tb : Tables} [Ours tb] {e : Env} {below : List Frame} {T target : State} {m : MethodId} {c : Code} (h : At T m c below) (hx : tb.exec = Jvm.exec) {pc : Nat} {Ls : Array Slot} {S : List Value} {cd : ClassFile.Cond} {o : Int} {x y : Int32} (hd : decode c.code pc = .ok (.if_icmp cd o, 3)) (hc : if_icmp.holds cd x y = false) (hr : Steps tb e below (T.setTop (mkF m (pc + 3) Ls S)) target) : Steps tb e below (T.setTop (mkF m pc Ls (.int y :: .int x :: S))) target := XS.icmpNo h hx rfl hd rfl hc hr
theorem own_selC {tb : Tables} [Ours tb] {e : Env} {below : List Frame} {T target : State} {m : MethodId} {c : Code} (h : At T m c below) (hx : tb.exec = Jvm.exec) {pc : Nat} {Ls : Array Slot} {S : List Value} {cd : ClassFile.Cond} {x : Int32} (hd : decode c.code pc = .ok (.ifCond cd 7, 3)) (d1 : decode c.code (pc + 3) = .ok (.iconst 1, 1)) (d2 : decode c.code (pc + 4) = .ok (.goto 4, 3)) (d3 : decode c.code (pc + 7) = .ok (.iconst 0, 1)) (hr : Steps tb e below (T.setTop (mkF m (pc + 8) Ls (.int (if ifCond.holds cd x = true then (0 : Int32) else 1) :: S))) target) : Steps tb e below (T.setTop (mkF m pc Ls (.int x :: S))) target := by
  by_cases q : ifCond.holds cd x = true
  · rw [if_pos q] at hr
    exact s_ifY h hx hd q (by omega) (pc' := pc + 7) (by omega) (s_iconst h hx d3 rfl hr)
  · rw [if_neg q] at hr
    exact s_ifN h hx hd (Bool.eq_false_iff.mpr q) (s_iconst h hx d1 rfl (s_goto h hx (pc := pc + 4) d2 (by omega) (pc' := pc + 8) (by omega) hr))
theorem own_selI {tb : Tables} [Ours tb] {e : Env} {below : List Frame} {T target : State} {m : MethodId} {c : Code} (h : At T m c below) (hx : tb.exec = Jvm.exec) {pc : Nat} {Ls : Array Slot} {S : List Value} {cd : ClassFile.Cond} {x y : Int32} (hd : decode c.code pc = .ok (.if_icmp cd 7, 3)) (d1 : decode c.code (pc + 3) = .ok (.iconst 1, 1)) (d2 : decode c.code (pc + 4) = .ok (.goto 4, 3)) (d3 : decode c.code (pc + 7) = .ok (.iconst 0, 1)) (hr : Steps tb e below (T.setTop (mkF m (pc + 8) Ls (.int (if if_icmp.holds cd x y = true then (0 : Int32) else 1) :: S))) target) : Steps tb e below (T.setTop (mkF m pc Ls (.int y :: .int x :: S))) target := by
  by_cases q : if_icmp.holds cd x y = true
  · rw [if_pos q] at hr
    exact s_icY h hx hd q (by omega) (pc' := pc + 7) (by omega) (s_iconst h hx d3 rfl hr)
  · rw [if_neg q] at hr
    exact s_icN h hx hd (Bool.eq_false_iff.mpr q) (s_iconst h hx d1 rfl (s_goto h hx (pc := pc + 4) d2 (by omega) (pc' := pc + 8) (by omega) hr))
end OwnSt
def QP (rv : Option Value) (h0 : Heap) (n0 : Nat) (v : Option Value) (h : Heap) (L : List Loc) : Prop := v = rv ∧ Fr n0 L ∧ h = h0
def QL (n0 : Nat) (v : Option Value) (h : Heap) (L : List Loc) : Prop := v = some (.int (1 : Int32)) ∧ Fr n0 L
theorem own_set_at {c : Cell} {j : Nat} {v : Value} (h : j < c.slots.size) : (c.setSlot j v).slots[j]? = some v := by
  simp [Cell.setSlot, h]
theorem own_set_ne {c : Cell} {i j : Nat} {v : Value} (h : j ≠ i) : (c.setSlot i v).slots[j]? = c.slots[j]? := by
  simp [Cell.setSlot, Array.getElem?_setIfInBounds, Ne.symm h]
theorem own_in {c : Cell} {j : Int32} (h : ¬ (j < 0 ∨ c.slots.size ≤ j.toNatClampNeg)) : j.toNatClampNeg < c.slots.size := Nat.lt_of_not_le fun q => h (Or.inr q)
theorem d1_41 : decode prog_20_method_1_code 41 = .ok (.iload_n 2, 1) := by decide +kernel
theorem d1_42 : decode prog_20_method_1_code 42 = .ok (.aload_n 1, 1) := by decide +kernel
theorem d1_43 : decode prog_20_method_1_code 43 = .ok (.arraylength, 1) := by decide +kernel
theorem d1_44 : decode prog_20_method_1_code 44 = .ok (.if_icmp .gt 80, 3) := by decide +kernel
theorem d1_47 : decode prog_20_method_1_code 47 = .ok (.aload_n 0, 1) := by decide +kernel
theorem d1_48 : decode prog_20_method_1_code 48 = .ok (.getfield 13, 3) := by decide +kernel
theorem d1_51 : decode prog_20_method_1_code 51 = .ok (.iload_n 2, 1) := by decide +kernel
theorem d1_52 : decode prog_20_method_1_code 52 = .ok (.aload_n 0, 1) := by decide +kernel
theorem d1_53 : decode prog_20_method_1_code 53 = .ok (.getfield 13, 3) := by decide +kernel
theorem d1_56 : decode prog_20_method_1_code 56 = .ok (.iload_n 2, 1) := by decide +kernel
theorem d1_57 : decode prog_20_method_1_code 57 = .ok (.iconst 1, 1) := by decide +kernel
theorem d1_58 : decode prog_20_method_1_code 58 = .ok (.isub, 1) := by decide +kernel
theorem d1_59 : decode prog_20_method_1_code 59 = .ok (.daload, 1) := by decide +kernel
theorem d1_60 : decode prog_20_method_1_code 60 = .ok (.aload_n 1, 1) := by decide +kernel
theorem d1_61 : decode prog_20_method_1_code 61 = .ok (.iload_n 2, 1) := by decide +kernel
theorem d1_62 : decode prog_20_method_1_code 62 = .ok (.iconst 1, 1) := by decide +kernel
theorem d1_63 : decode prog_20_method_1_code 63 = .ok (.isub, 1) := by decide +kernel
theorem d1_64 : decode prog_20_method_1_code 64 = .ok (.daload, 1) := by decide +kernel
theorem d1_65 : decode prog_20_method_1_code 65 = .ok (.dadd, 1) := by decide +kernel
theorem d1_66 : decode prog_20_method_1_code 66 = .ok (.dastore, 1) := by decide +kernel
theorem d1_67 : decode prog_20_method_1_code 67 = .ok (.aload_n 0, 1) := by decide +kernel
theorem d1_68 : decode prog_20_method_1_code 68 = .ok (.getfield 16, 3) := by decide +kernel
theorem d1_71 : decode prog_20_method_1_code 71 = .ok (.iload_n 2, 1) := by decide +kernel
theorem d1_72 : decode prog_20_method_1_code 72 = .ok (.aload_n 0, 1) := by decide +kernel
theorem d1_73 : decode prog_20_method_1_code 73 = .ok (.getfield 16, 3) := by decide +kernel
theorem d1_76 : decode prog_20_method_1_code 76 = .ok (.iload_n 2, 1) := by decide +kernel
theorem d1_77 : decode prog_20_method_1_code 77 = .ok (.iconst 1, 1) := by decide +kernel
theorem d1_78 : decode prog_20_method_1_code 78 = .ok (.isub, 1) := by decide +kernel
theorem d1_79 : decode prog_20_method_1_code 79 = .ok (.daload, 1) := by decide +kernel
theorem d1_80 : decode prog_20_method_1_code 80 = .ok (.aload_n 0, 1) := by decide +kernel
theorem d1_81 : decode prog_20_method_1_code 81 = .ok (.getfield 13, 3) := by decide +kernel
theorem d1_84 : decode prog_20_method_1_code 84 = .ok (.iload_n 2, 1) := by decide +kernel
theorem d1_85 : decode prog_20_method_1_code 85 = .ok (.daload, 1) := by decide +kernel
theorem d1_86 : decode prog_20_method_1_code 86 = .ok (.dadd, 1) := by decide +kernel
theorem d1_87 : decode prog_20_method_1_code 87 = .ok (.dastore, 1) := by decide +kernel
theorem d1_88 : decode prog_20_method_1_code 88 = .ok (.aload_n 0, 1) := by decide +kernel
theorem d1_89 : decode prog_20_method_1_code 89 = .ok (.getfield 19, 3) := by decide +kernel
theorem d1_92 : decode prog_20_method_1_code 92 = .ok (.iload_n 2, 1) := by decide +kernel
theorem d1_93 : decode prog_20_method_1_code 93 = .ok (.aload_n 0, 1) := by decide +kernel
theorem d1_94 : decode prog_20_method_1_code 94 = .ok (.getfield 19, 3) := by decide +kernel
theorem d1_97 : decode prog_20_method_1_code 97 = .ok (.iload_n 2, 1) := by decide +kernel
theorem d1_98 : decode prog_20_method_1_code 98 = .ok (.iconst 1, 1) := by decide +kernel
theorem d1_99 : decode prog_20_method_1_code 99 = .ok (.isub, 1) := by decide +kernel
theorem d1_100 : decode prog_20_method_1_code 100 = .ok (.iaload, 1) := by decide +kernel
theorem d1_101 : decode prog_20_method_1_code 101 = .ok (.aload_n 1, 1) := by decide +kernel
theorem d1_102 : decode prog_20_method_1_code 102 = .ok (.iload_n 2, 1) := by decide +kernel
theorem d1_103 : decode prog_20_method_1_code 103 = .ok (.iconst 1, 1) := by decide +kernel
theorem d1_104 : decode prog_20_method_1_code 104 = .ok (.isub, 1) := by decide +kernel
theorem d1_105 : decode prog_20_method_1_code 105 = .ok (.daload, 1) := by decide +kernel
theorem d1_106 : decode prog_20_method_1_code 106 = .ok (.dconst 0, 1) := by decide +kernel
theorem d1_107 : decode prog_20_method_1_code 107 = .ok (.dcmp .l, 1) := by decide +kernel
theorem d1_108 : decode prog_20_method_1_code 108 = .ok (.ifCond .le 7, 3) := by decide +kernel
theorem d1_111 : decode prog_20_method_1_code 111 = .ok (.iconst 1, 1) := by decide +kernel
theorem d1_112 : decode prog_20_method_1_code 112 = .ok (.goto 4, 3) := by decide +kernel
theorem d1_115 : decode prog_20_method_1_code 115 = .ok (.iconst 0, 1) := by decide +kernel
theorem d1_116 : decode prog_20_method_1_code 116 = .ok (.iadd, 1) := by decide +kernel
theorem d1_117 : decode prog_20_method_1_code 117 = .ok (.iastore, 1) := by decide +kernel
theorem d1_118 : decode prog_20_method_1_code 118 = .ok (.iinc 2 1, 3) := by decide +kernel
theorem d1_121 : decode prog_20_method_1_code 121 = .ok (.goto (-80), 3) := by decide +kernel
set_option maxRecDepth 65536 in
set_option maxHeartbeats 40000000 in
theorem turn1 {p : Program} {l : Launch} {e : Env} {R : Room} {s : State} {m : MethodId} {args : Array Value} {below : List Frame} {meth : Method} {c : Code} {T0 : State} {locs : List Loc} {cells slots : Nat} {Z : State} {a0 : Array Value} {h0 : Heap} {n0 : Nat} (N0 : Fr n0 locs) (o0 : Addr) (o1 : Addr) (i2 : Int32) (cl_o1 : Cell) (w3 : Addr) (w6 : UInt64) (cl_w3 : Cell) (w7 : UInt64) (r65 : UInt64) (w9 : Addr) (w12 : UInt64) (cl_w9 : Cell) (r86 : UInt64) (w16 : Addr) (w19 : Int32) (cl_w16 : Cell)
    (X0 : Stand p l e R s m args below meth c T0 locs cells slots) (hx : p.tables.exec = Jvm.exec) (hZ : Z.Warmed39 s.vm) (hw : ∀ d ∈ tables_1, d.before a0 Z = true) (hby : c.code = prog_20_method_1_code) (hml : c.maxLocals = 3) (hown : s.vm.findClass "com/example/cycle_by_chance/cyclebychance/model/DemandToDate" = some m.cls) (e0 : T0.heap = h0) (Ar_o1 : Arr Z h0 o1 cl_o1 .double) (S_o1 : cl_o1.slots.size = (4 : Int32).toNatClampNeg) (N_o1 : ¬ (4 : Int32) < 0) (F_through_o0 : Fld Z h0 o0 "com/example/cycle_by_chance/cyclebychance/model/DemandToDate" "through" "[D" (.ref w3)) (Ar_w3 : Arr Z h0 w3 cl_w3 .double) (hin59 : ¬ ((i2 - (1 : Int32)) < 0 ∨ cl_w3.slots.size ≤ ((i2 - (1 : Int32))).toNatClampNeg)) (hat59 : cl_w3.slots[((i2 - (1 : Int32))).toNatClampNeg]? = some (.double w6)) (hin64 : ¬ ((i2 - (1 : Int32)) < 0 ∨ cl_o1.slots.size ≤ ((i2 - (1 : Int32))).toNatClampNeg)) (hat64 : cl_o1.slots[((i2 - (1 : Int32))).toNatClampNeg]? = some (.double w7)) (hin66 : ¬ (i2 < 0 ∨ cl_w3.slots.size ≤ (i2).toNatClampNeg)) (g_w3 : n0 ≤ w3) (F_summed_o0 : Fld Z h0 o0 "com/example/cycle_by_chance/cyclebychance/model/DemandToDate" "summed" "[D" (.ref w9)) (Ar_w9 : Arr Z h0 w9 cl_w9 .double) (hin79 : ¬ ((i2 - (1 : Int32)) < 0 ∨ cl_w9.slots.size ≤ ((i2 - (1 : Int32))).toNatClampNeg)) (hat79 : cl_w9.slots[((i2 - (1 : Int32))).toNatClampNeg]? = some (.double w12)) (hin87 : ¬ (i2 < 0 ∨ cl_w9.slots.size ≤ (i2).toNatClampNeg)) (g_w9 : n0 ≤ w9) (F_above_o0 : Fld Z h0 o0 "com/example/cycle_by_chance/cyclebychance/model/DemandToDate" "above" "[I" (.ref w16)) (Ar_w16 : Arr Z h0 w16 cl_w16 .int) (hin100 : ¬ ((i2 - (1 : Int32)) < 0 ∨ cl_w16.slots.size ≤ ((i2 - (1 : Int32))).toNatClampNeg)) (hat100 : cl_w16.slots[((i2 - (1 : Int32))).toNatClampNeg]? = some (.int w19)) (hin105 : ¬ ((i2 - (1 : Int32)) < 0 ∨ cl_o1.slots.size ≤ ((i2 - (1 : Int32))).toNatClampNeg)) (hat105 : cl_o1.slots[((i2 - (1 : Int32))).toNatClampNeg]? = some (.double w7)) (hin117 : ¬ (i2 < 0 ∨ cl_w16.slots.size ≤ (i2).toNatClampNeg)) (g_w16 : n0 ≤ w16) (n03 : o0 ≠ w3) (n09 : o0 ≠ w9) (n13 : o1 ≠ w3) (n19 : o1 ≠ w9) (n93 : w9 ≠ w3) (n163 : w16 ≠ w3) (n169 : w16 ≠ w9) (hc44 : ¬ ((4 : Int32) < i2)) (hv65 : (FP.dadd w6 w7) = r65) (hn65 : Jvm.Free.Fl.NoNaN64 (FP.dadd w6 w7)) (hv86 : (FP.dadd w12 r65) = r86) (hn86 : Jvm.Free.Fl.NoNaN64 (FP.dadd w12 r65)) :
    ∃ (T' : State) (h' : Heap) (locs' : List Loc), Stand p l e R s m args below meth c T' locs' cells slots ∧ T'.heap = h' ∧ (Fr n0 locs' ∧ Keep h0 h' [w3, w9, w16] ∧ Arr Z h' w3 (cl_w3.setSlot i2.toNatClampNeg (.double r65)) .double ∧ Arr Z h' w9 (cl_w9.setSlot i2.toNatClampNeg (.double r86)) .double ∧ ∃ x : Int32, Arr Z h' w16 (cl_w16.setSlot i2.toNatClampNeg (.int x)) .int) ∧
      ∀ target, Steps p.tables e below (T'.setTop (mkF m 41 #[.val (.ref o0), .val (.ref o1), .val (.int (i2 + (1 : Int32)))] [])) target → Steps p.tables e below (T0.setTop (mkF m 41 #[.val (.ref o0), .val (.ref o1), .val (.int i2)] [])) target := by
  obtain ⟨T4, X4, e4, st4⟩ := getF X0 hx hZ hown (host := "") (Or.inl (hw _ (List.mem_of_getElem? (i := 12) rfl))) Via.refl e0 F_through_o0 (g := (mkF m 48 #[.val (.ref o0), .val (.ref o1), .val (.int i2)] [(.ref o0)])) rfl rfl (hb hby d1_48)
  obtain ⟨T5, X5, e5, st5⟩ := getF X4 hx hZ hown (host := "") (Or.inl (hw _ (List.mem_of_getElem? (i := 12) rfl))) Via.refl e4 F_through_o0 (g := (mkF m 53 #[.val (.ref o0), .val (.ref o1), .val (.int i2)] [(.ref o0), (.int i2), (.ref w3)])) rfl rfl (hb hby d1_53)
  obtain ⟨T8, h8, X8, e8, W8, st8⟩ := stD X5 hx hZ e5 Ar_w3 (j := i2) hin66 (g := (mkF m 66 #[.val (.ref o0), .val (.ref o1), .val (.int i2)] [(.double r65), (.int i2), (.ref w3)])) rfl rfl (hb hby d1_66)
  have N8 := Fr.snoc X8 N0 g_w3
  have K8 : Keep h0 h8 [w3, w9, w16] := (Keep.refl h0 [w3, w9, w16]).wr W8 (Or.inl (List.mem_of_getElem? (i := 0) rfl))
  have Ar_w9b := Ar_w9.other W8 n93
  have Ar_w3b := Ar_w3.same W8
  have hin85 : ¬ (i2 < 0 ∨ (cl_w3.setSlot i2.toNatClampNeg (.double r65)).slots.size ≤ (i2).toNatClampNeg) := by rw [sz_set]; exact hin66
  have hat85 : (cl_w3.setSlot i2.toNatClampNeg (.double r65)).slots[(i2).toNatClampNeg]? = some (.double r65) := own_set_at (own_in hin66)
  obtain ⟨T10, X10, e10, st10⟩ := getF X8 hx hZ hown (host := "") (Or.inl (hw _ (List.mem_of_getElem? (i := 14) rfl))) Via.refl e8 (F_summed_o0.other W8 (Or.inl n03)) (g := (mkF m 68 #[.val (.ref o0), .val (.ref o1), .val (.int i2)] [(.ref o0)])) rfl rfl (hb hby d1_68)
  obtain ⟨T11, X11, e11, st11⟩ := getF X10 hx hZ hown (host := "") (Or.inl (hw _ (List.mem_of_getElem? (i := 14) rfl))) Via.refl e10 (F_summed_o0.other W8 (Or.inl n03)) (g := (mkF m 73 #[.val (.ref o0), .val (.ref o1), .val (.int i2)] [(.ref o0), (.int i2), (.ref w9)])) rfl rfl (hb hby d1_73)
  obtain ⟨T13, X13, e13, st13⟩ := getF X11 hx hZ hown (host := "") (Or.inl (hw _ (List.mem_of_getElem? (i := 12) rfl))) Via.refl e11 (F_through_o0.other W8 (Or.inl n03)) (g := (mkF m 81 #[.val (.ref o0), .val (.ref o1), .val (.int i2)] [(.ref o0), (.double w12), (.int i2), (.ref w9)])) rfl rfl (hb hby d1_81)
  obtain ⟨T15, h15, X15, e15, W15, st15⟩ := stD X13 hx hZ e13 Ar_w9b (j := i2) hin87 (g := (mkF m 87 #[.val (.ref o0), .val (.ref o1), .val (.int i2)] [(.double r86), (.int i2), (.ref w9)])) rfl rfl (hb hby d1_87)
  have N15 := Fr.snoc X15 N8 g_w9
  have K15 : Keep h0 h15 [w3, w9, w16] := K8.wr W15 (Or.inl (List.mem_of_getElem? (i := 1) rfl))
  have Ar_w16b := (Ar_w16.other W8 n163).other W15 n169
  have Ar_o1b := (Ar_o1.other W8 n13).other W15 n19
  obtain ⟨T17, X17, e17, st17⟩ := getF X15 hx hZ hown (host := "") (Or.inl (hw _ (List.mem_of_getElem? (i := 17) rfl))) Via.refl e15 ((F_above_o0.other W8 (Or.inl n03)).other W15 (Or.inl n09)) (g := (mkF m 89 #[.val (.ref o0), .val (.ref o1), .val (.int i2)] [(.ref o0)])) rfl rfl (hb hby d1_89)
  obtain ⟨T18, X18, e18, st18⟩ := getF X17 hx hZ hown (host := "") (Or.inl (hw _ (List.mem_of_getElem? (i := 17) rfl))) Via.refl e17 ((F_above_o0.other W8 (Or.inl n03)).other W15 (Or.inl n09)) (g := (mkF m 94 #[.val (.ref o0), .val (.ref o1), .val (.int i2)] [(.ref o0), (.int i2), (.ref w16)])) rfl rfl (hb hby d1_94)
  obtain ⟨T21, h21, X21, e21, W21, st21⟩ := stI X18 hx hZ e18 Ar_w16b (j := i2) hin117 (g := (mkF m 117 #[.val (.ref o0), .val (.ref o1), .val (.int i2)] [(.int (w19 + (if ifCond.holds .le (cmpValue (FP.dcmp w7 FP.dconst0) .l) = true then (0 : Int32) else 1))), (.int i2), (.ref w16)])) rfl rfl (hb hby d1_117)
  have N21 := Fr.snoc X21 N15 g_w16
  have K21 : Keep h0 h21 [w3, w9, w16] := K15.wr W21 (Or.inl (List.mem_of_getElem? (i := 2) rfl))
  refine ⟨T21, _, _, X21, e21, ⟨N21, K21, (Ar_w3b.other W15 n93.symm).other W21 n163.symm, (Ar_w9b.same W15).other W21 n169.symm, _, Ar_w16b.same W21⟩, fun target kt => ?_⟩
  show Steps p.tables e below (T0.setTop (mkF m 41 #[.val (.ref o0), .val (.ref o1), .val (.int i2)] [])) _
  refine XS.iloadN X0.here hx rfl (hb hby d1_41) rfl ?_
  show Steps p.tables e below (T0.setTop (mkF m 42 #[.val (.ref o0), .val (.ref o1), .val (.int i2)] [(.int i2)])) _
  refine XS.aloadN X0.here hx rfl (hb hby d1_42) rfl rfl ?_
  show Steps p.tables e below (T0.setTop (mkF m 43 #[.val (.ref o0), .val (.ref o1), .val (.int i2)] [(.ref o1), (.int i2)])) _
  refine X0.arraylength hx (by rw [e0]; exact Ar_o1.1) (State.isArrayOf_alike hZ.alike Ar_o1.2.1) (g := (mkF m 43 #[.val (.ref o0), .val (.ref o1), .val (.int i2)] [(.ref o1), (.int i2)])) rfl rfl (hb hby d1_43) _ ?_
  rw [len_of S_o1 N_o1]
  show Steps p.tables e below (T0.setTop (mkF m 44 #[.val (.ref o0), .val (.ref o1), .val (.int i2)] [(.int (4 : Int32)), (.int i2)])) _
  refine XS.icmpNo X0.here hx rfl (hb hby d1_44) rfl (flt hc44).2.2.1 ?_
  show Steps p.tables e below (T0.setTop (mkF m 47 #[.val (.ref o0), .val (.ref o1), .val (.int i2)] [])) _
  refine XS.aloadN X0.here hx rfl (hb hby d1_47) rfl rfl ?_
  show Steps p.tables e below (T0.setTop (mkF m 48 #[.val (.ref o0), .val (.ref o1), .val (.int i2)] [(.ref o0)])) _
  refine st4 _ ?_
  show Steps p.tables e below (T4.setTop (mkF m 51 #[.val (.ref o0), .val (.ref o1), .val (.int i2)] [(.ref w3)])) _
  refine XS.iloadN X4.here hx rfl (hb hby d1_51) rfl ?_
  show Steps p.tables e below (T4.setTop (mkF m 52 #[.val (.ref o0), .val (.ref o1), .val (.int i2)] [(.int i2), (.ref w3)])) _
  refine XS.aloadN X4.here hx rfl (hb hby d1_52) rfl rfl ?_
  show Steps p.tables e below (T4.setTop (mkF m 53 #[.val (.ref o0), .val (.ref o1), .val (.int i2)] [(.ref o0), (.int i2), (.ref w3)])) _
  refine st5 _ ?_
  show Steps p.tables e below (T5.setTop (mkF m 56 #[.val (.ref o0), .val (.ref o1), .val (.int i2)] [(.ref w3), (.int i2), (.ref w3)])) _
  refine XS.iloadN X5.here hx rfl (hb hby d1_56) rfl ?_
  show Steps p.tables e below (T5.setTop (mkF m 57 #[.val (.ref o0), .val (.ref o1), .val (.int i2)] [(.int i2), (.ref w3), (.int i2), (.ref w3)])) _
  refine XS.iconst X5.here hx rfl (hb hby d1_57) ?_
  show Steps p.tables e below (T5.setTop (mkF m 58 #[.val (.ref o0), .val (.ref o1), .val (.int i2)] [(.int (1 : Int32)), (.int i2), (.ref w3), (.int i2), (.ref w3)])) _
  refine XS.isub X5.here hx rfl (hb hby d1_58) rfl ?_
  show Steps p.tables e below (T5.setTop (mkF m 59 #[.val (.ref o0), .val (.ref o1), .val (.int i2)] [(.int (i2 - (1 : Int32))), (.ref w3), (.int i2), (.ref w3)])) _
  refine X5.daload hx (j := (i2 - (1 : Int32))) (v := (.double w6)) (by rw [e5]; exact Ar_w3.1) (State.isArrayOf_alike hZ.alike Ar_w3.2.1) Ar_w3.2.2 hin59 hat59 (g := (mkF m 59 #[.val (.ref o0), .val (.ref o1), .val (.int i2)] [(.int (i2 - (1 : Int32))), (.ref w3), (.int i2), (.ref w3)])) rfl rfl (hb hby d1_59) _ ?_
  show Steps p.tables e below (T5.setTop (mkF m 60 #[.val (.ref o0), .val (.ref o1), .val (.int i2)] [(.double w6), (.int i2), (.ref w3)])) _
  refine XS.aloadN X5.here hx rfl (hb hby d1_60) rfl rfl ?_
  show Steps p.tables e below (T5.setTop (mkF m 61 #[.val (.ref o0), .val (.ref o1), .val (.int i2)] [(.ref o1), (.double w6), (.int i2), (.ref w3)])) _
  refine XS.iloadN X5.here hx rfl (hb hby d1_61) rfl ?_
  show Steps p.tables e below (T5.setTop (mkF m 62 #[.val (.ref o0), .val (.ref o1), .val (.int i2)] [(.int i2), (.ref o1), (.double w6), (.int i2), (.ref w3)])) _
  refine XS.iconst X5.here hx rfl (hb hby d1_62) ?_
  show Steps p.tables e below (T5.setTop (mkF m 63 #[.val (.ref o0), .val (.ref o1), .val (.int i2)] [(.int (1 : Int32)), (.int i2), (.ref o1), (.double w6), (.int i2), (.ref w3)])) _
  refine XS.isub X5.here hx rfl (hb hby d1_63) rfl ?_
  show Steps p.tables e below (T5.setTop (mkF m 64 #[.val (.ref o0), .val (.ref o1), .val (.int i2)] [(.int (i2 - (1 : Int32))), (.ref o1), (.double w6), (.int i2), (.ref w3)])) _
  refine X5.daload hx (j := (i2 - (1 : Int32))) (v := (.double w7)) (by rw [e5]; exact Ar_o1.1) (State.isArrayOf_alike hZ.alike Ar_o1.2.1) Ar_o1.2.2 hin64 hat64 (g := (mkF m 64 #[.val (.ref o0), .val (.ref o1), .val (.int i2)] [(.int (i2 - (1 : Int32))), (.ref o1), (.double w6), (.int i2), (.ref w3)])) rfl rfl (hb hby d1_64) _ ?_
  show Steps p.tables e below (T5.setTop (mkF m 65 #[.val (.ref o0), .val (.ref o1), .val (.int i2)] [(.double w7), (.double w6), (.int i2), (.ref w3)])) _
  refine XS.daddS X5.here hx rfl (hb hby d1_65) rfl hn65 hv65 ?_
  show Steps p.tables e below (T5.setTop (mkF m 66 #[.val (.ref o0), .val (.ref o1), .val (.int i2)] [(.double r65), (.int i2), (.ref w3)])) _
  refine st8 _ ?_
  show Steps p.tables e below (T8.setTop (mkF m 67 #[.val (.ref o0), .val (.ref o1), .val (.int i2)] [])) _
  refine XS.aloadN X8.here hx rfl (hb hby d1_67) rfl rfl ?_
  show Steps p.tables e below (T8.setTop (mkF m 68 #[.val (.ref o0), .val (.ref o1), .val (.int i2)] [(.ref o0)])) _
  refine st10 _ ?_
  show Steps p.tables e below (T10.setTop (mkF m 71 #[.val (.ref o0), .val (.ref o1), .val (.int i2)] [(.ref w9)])) _
  refine XS.iloadN X10.here hx rfl (hb hby d1_71) rfl ?_
  show Steps p.tables e below (T10.setTop (mkF m 72 #[.val (.ref o0), .val (.ref o1), .val (.int i2)] [(.int i2), (.ref w9)])) _
  refine XS.aloadN X10.here hx rfl (hb hby d1_72) rfl rfl ?_
  show Steps p.tables e below (T10.setTop (mkF m 73 #[.val (.ref o0), .val (.ref o1), .val (.int i2)] [(.ref o0), (.int i2), (.ref w9)])) _
  refine st11 _ ?_
  show Steps p.tables e below (T11.setTop (mkF m 76 #[.val (.ref o0), .val (.ref o1), .val (.int i2)] [(.ref w9), (.int i2), (.ref w9)])) _
  refine XS.iloadN X11.here hx rfl (hb hby d1_76) rfl ?_
  show Steps p.tables e below (T11.setTop (mkF m 77 #[.val (.ref o0), .val (.ref o1), .val (.int i2)] [(.int i2), (.ref w9), (.int i2), (.ref w9)])) _
  refine XS.iconst X11.here hx rfl (hb hby d1_77) ?_
  show Steps p.tables e below (T11.setTop (mkF m 78 #[.val (.ref o0), .val (.ref o1), .val (.int i2)] [(.int (1 : Int32)), (.int i2), (.ref w9), (.int i2), (.ref w9)])) _
  refine XS.isub X11.here hx rfl (hb hby d1_78) rfl ?_
  show Steps p.tables e below (T11.setTop (mkF m 79 #[.val (.ref o0), .val (.ref o1), .val (.int i2)] [(.int (i2 - (1 : Int32))), (.ref w9), (.int i2), (.ref w9)])) _
  refine X11.daload hx (j := (i2 - (1 : Int32))) (v := (.double w12)) (by rw [e11]; exact Ar_w9b.1) (State.isArrayOf_alike hZ.alike Ar_w9b.2.1) Ar_w9b.2.2 hin79 hat79 (g := (mkF m 79 #[.val (.ref o0), .val (.ref o1), .val (.int i2)] [(.int (i2 - (1 : Int32))), (.ref w9), (.int i2), (.ref w9)])) rfl rfl (hb hby d1_79) _ ?_
  show Steps p.tables e below (T11.setTop (mkF m 80 #[.val (.ref o0), .val (.ref o1), .val (.int i2)] [(.double w12), (.int i2), (.ref w9)])) _
  refine XS.aloadN X11.here hx rfl (hb hby d1_80) rfl rfl ?_
  show Steps p.tables e below (T11.setTop (mkF m 81 #[.val (.ref o0), .val (.ref o1), .val (.int i2)] [(.ref o0), (.double w12), (.int i2), (.ref w9)])) _
  refine st13 _ ?_
  show Steps p.tables e below (T13.setTop (mkF m 84 #[.val (.ref o0), .val (.ref o1), .val (.int i2)] [(.ref w3), (.double w12), (.int i2), (.ref w9)])) _
  refine XS.iloadN X13.here hx rfl (hb hby d1_84) rfl ?_
  show Steps p.tables e below (T13.setTop (mkF m 85 #[.val (.ref o0), .val (.ref o1), .val (.int i2)] [(.int i2), (.ref w3), (.double w12), (.int i2), (.ref w9)])) _
  refine X13.daload hx (j := i2) (v := (.double r65)) (by rw [e13]; exact Ar_w3b.1) (State.isArrayOf_alike hZ.alike Ar_w3b.2.1) Ar_w3b.2.2 hin85 hat85 (g := (mkF m 85 #[.val (.ref o0), .val (.ref o1), .val (.int i2)] [(.int i2), (.ref w3), (.double w12), (.int i2), (.ref w9)])) rfl rfl (hb hby d1_85) _ ?_
  show Steps p.tables e below (T13.setTop (mkF m 86 #[.val (.ref o0), .val (.ref o1), .val (.int i2)] [(.double r65), (.double w12), (.int i2), (.ref w9)])) _
  refine XS.daddS X13.here hx rfl (hb hby d1_86) rfl hn86 hv86 ?_
  show Steps p.tables e below (T13.setTop (mkF m 87 #[.val (.ref o0), .val (.ref o1), .val (.int i2)] [(.double r86), (.int i2), (.ref w9)])) _
  refine st15 _ ?_
  show Steps p.tables e below (T15.setTop (mkF m 88 #[.val (.ref o0), .val (.ref o1), .val (.int i2)] [])) _
  refine XS.aloadN X15.here hx rfl (hb hby d1_88) rfl rfl ?_
  show Steps p.tables e below (T15.setTop (mkF m 89 #[.val (.ref o0), .val (.ref o1), .val (.int i2)] [(.ref o0)])) _
  refine st17 _ ?_
  show Steps p.tables e below (T17.setTop (mkF m 92 #[.val (.ref o0), .val (.ref o1), .val (.int i2)] [(.ref w16)])) _
  refine XS.iloadN X17.here hx rfl (hb hby d1_92) rfl ?_
  show Steps p.tables e below (T17.setTop (mkF m 93 #[.val (.ref o0), .val (.ref o1), .val (.int i2)] [(.int i2), (.ref w16)])) _
  refine XS.aloadN X17.here hx rfl (hb hby d1_93) rfl rfl ?_
  show Steps p.tables e below (T17.setTop (mkF m 94 #[.val (.ref o0), .val (.ref o1), .val (.int i2)] [(.ref o0), (.int i2), (.ref w16)])) _
  refine st18 _ ?_
  show Steps p.tables e below (T18.setTop (mkF m 97 #[.val (.ref o0), .val (.ref o1), .val (.int i2)] [(.ref w16), (.int i2), (.ref w16)])) _
  refine XS.iloadN X18.here hx rfl (hb hby d1_97) rfl ?_
  show Steps p.tables e below (T18.setTop (mkF m 98 #[.val (.ref o0), .val (.ref o1), .val (.int i2)] [(.int i2), (.ref w16), (.int i2), (.ref w16)])) _
  refine XS.iconst X18.here hx rfl (hb hby d1_98) ?_
  show Steps p.tables e below (T18.setTop (mkF m 99 #[.val (.ref o0), .val (.ref o1), .val (.int i2)] [(.int (1 : Int32)), (.int i2), (.ref w16), (.int i2), (.ref w16)])) _
  refine XS.isub X18.here hx rfl (hb hby d1_99) rfl ?_
  show Steps p.tables e below (T18.setTop (mkF m 100 #[.val (.ref o0), .val (.ref o1), .val (.int i2)] [(.int (i2 - (1 : Int32))), (.ref w16), (.int i2), (.ref w16)])) _
  refine X18.iaload hx (j := (i2 - (1 : Int32))) (v := (.int w19)) (by rw [e18]; exact Ar_w16b.1) (State.isArrayOf_alike hZ.alike Ar_w16b.2.1) Ar_w16b.2.2 hin100 hat100 (g := (mkF m 100 #[.val (.ref o0), .val (.ref o1), .val (.int i2)] [(.int (i2 - (1 : Int32))), (.ref w16), (.int i2), (.ref w16)])) rfl rfl (hb hby d1_100) _ ?_
  show Steps p.tables e below (T18.setTop (mkF m 101 #[.val (.ref o0), .val (.ref o1), .val (.int i2)] [(.int w19), (.int i2), (.ref w16)])) _
  refine XS.aloadN X18.here hx rfl (hb hby d1_101) rfl rfl ?_
  show Steps p.tables e below (T18.setTop (mkF m 102 #[.val (.ref o0), .val (.ref o1), .val (.int i2)] [(.ref o1), (.int w19), (.int i2), (.ref w16)])) _
  refine XS.iloadN X18.here hx rfl (hb hby d1_102) rfl ?_
  show Steps p.tables e below (T18.setTop (mkF m 103 #[.val (.ref o0), .val (.ref o1), .val (.int i2)] [(.int i2), (.ref o1), (.int w19), (.int i2), (.ref w16)])) _
  refine XS.iconst X18.here hx rfl (hb hby d1_103) ?_
  show Steps p.tables e below (T18.setTop (mkF m 104 #[.val (.ref o0), .val (.ref o1), .val (.int i2)] [(.int (1 : Int32)), (.int i2), (.ref o1), (.int w19), (.int i2), (.ref w16)])) _
  refine XS.isub X18.here hx rfl (hb hby d1_104) rfl ?_
  show Steps p.tables e below (T18.setTop (mkF m 105 #[.val (.ref o0), .val (.ref o1), .val (.int i2)] [(.int (i2 - (1 : Int32))), (.ref o1), (.int w19), (.int i2), (.ref w16)])) _
  refine X18.daload hx (j := (i2 - (1 : Int32))) (v := (.double w7)) (by rw [e18]; exact Ar_o1b.1) (State.isArrayOf_alike hZ.alike Ar_o1b.2.1) Ar_o1b.2.2 hin105 hat105 (g := (mkF m 105 #[.val (.ref o0), .val (.ref o1), .val (.int i2)] [(.int (i2 - (1 : Int32))), (.ref o1), (.int w19), (.int i2), (.ref w16)])) rfl rfl (hb hby d1_105) _ ?_
  show Steps p.tables e below (T18.setTop (mkF m 106 #[.val (.ref o0), .val (.ref o1), .val (.int i2)] [(.double w7), (.int w19), (.int i2), (.ref w16)])) _
  refine XS.dconst0 X18.here hx rfl (hb hby d1_106) rfl ?_
  show Steps p.tables e below (T18.setTop (mkF m 107 #[.val (.ref o0), .val (.ref o1), .val (.int i2)] [(.double FP.dconst0), (.double w7), (.int w19), (.int i2), (.ref w16)])) _
  refine XS.dcmpS X18.here hx rfl (hb hby d1_107) rfl rfl ?_
  show Steps p.tables e below (T18.setTop (mkF m 108 #[.val (.ref o0), .val (.ref o1), .val (.int i2)] [(.int (cmpValue (FP.dcmp w7 FP.dconst0) .l)), (.int w19), (.int i2), (.ref w16)])) _
  refine own_selC X18.here hx (hb hby d1_108) (hb hby d1_111) (hb hby d1_112) (hb hby d1_115) ?_
  show Steps p.tables e below (T18.setTop (mkF m 116 #[.val (.ref o0), .val (.ref o1), .val (.int i2)] [(.int (if ifCond.holds .le (cmpValue (FP.dcmp w7 FP.dconst0) .l) = true then (0 : Int32) else 1)), (.int w19), (.int i2), (.ref w16)])) _
  refine XS.iadd X18.here hx rfl (hb hby d1_116) rfl ?_
  show Steps p.tables e below (T18.setTop (mkF m 117 #[.val (.ref o0), .val (.ref o1), .val (.int i2)] [(.int (w19 + (if ifCond.holds .le (cmpValue (FP.dcmp w7 FP.dconst0) .l) = true then (0 : Int32) else 1))), (.int i2), (.ref w16)])) _
  refine st21 _ ?_
  show Steps p.tables e below (T21.setTop (mkF m 118 #[.val (.ref o0), .val (.ref o1), .val (.int i2)] [])) _
  refine XS.iinc X21.here hx rfl (hb hby d1_118) rfl (l' := #[.val (.ref o0), .val (.ref o1), .val (.int (i2 + (1 : Int32)))]) rfl ?_
  show Steps p.tables e below (T21.setTop (mkF m 121 #[.val (.ref o0), .val (.ref o1), .val (.int (i2 + (1 : Int32)))] [])) _
  refine XS.goto X21.here hx rfl (pc0 := 121) (pc' := 41) rfl (hb hby d1_121) (by decide) (by decide) ?_
  exact kt
set_option maxRecDepth 65536 in
set_option maxHeartbeats 40000000 in
theorem exit1 {p : Program} {l : Launch} {e : Env} {R : Room} {s : State} {m : MethodId} {args : Array Value} {below : List Frame} {meth : Method} {c : Code} {T0 : State} {locs : List Loc} {cells slots : Nat} {Z : State} {a0 : Array Value} {h0 : Heap} (s0 : Slot) (o1 : Addr) (i2 : Int32) (cl_o1 : Cell)
    (X0 : Stand p l e R s m args below meth c T0 locs cells slots) (hx : p.tables.exec = Jvm.exec) (hZ : Z.Warmed39 s.vm) (hw : ∀ d ∈ tables_1, d.before a0 Z = true) (hby : c.code = prog_20_method_1_code) (hml : c.maxLocals = 3) (hown : s.vm.findClass "com/example/cycle_by_chance/cyclebychance/model/DemandToDate" = some m.cls) (e0 : T0.heap = h0) (Ar_o1 : Arr Z h0 o1 cl_o1 .double) (S_o1 : cl_o1.slots.size = (4 : Int32).toNatClampNeg) (N_o1 : ¬ (4 : Int32) < 0) (hc44 : (4 : Int32) < i2) :
    ∃ (T' : State), Stand p l e R s m args below meth c T' locs cells slots ∧ T'.heap = h0 ∧
      ∀ target, Steps p.tables e below (T'.setTop (mkF m 124 #[s0, .val (.ref o1), .val (.int i2)] [])) target → Steps p.tables e below (T0.setTop (mkF m 41 #[s0, .val (.ref o1), .val (.int i2)] [])) target := by

  refine ⟨T0, X0, e0, fun target kt => ?_⟩
  show Steps p.tables e below (T0.setTop (mkF m 41 #[s0, .val (.ref o1), .val (.int i2)] [])) _
  refine XS.iloadN X0.here hx rfl (hb hby d1_41) rfl ?_
  show Steps p.tables e below (T0.setTop (mkF m 42 #[s0, .val (.ref o1), .val (.int i2)] [(.int i2)])) _
  refine XS.aloadN X0.here hx rfl (hb hby d1_42) rfl rfl ?_
  show Steps p.tables e below (T0.setTop (mkF m 43 #[s0, .val (.ref o1), .val (.int i2)] [(.ref o1), (.int i2)])) _
  refine X0.arraylength hx (by rw [e0]; exact Ar_o1.1) (State.isArrayOf_alike hZ.alike Ar_o1.2.1) (g := (mkF m 43 #[s0, .val (.ref o1), .val (.int i2)] [(.ref o1), (.int i2)])) rfl rfl (hb hby d1_43) _ ?_
  rw [len_of S_o1 N_o1]
  show Steps p.tables e below (T0.setTop (mkF m 44 #[s0, .val (.ref o1), .val (.int i2)] [(.int (4 : Int32)), (.int i2)])) _
  refine XS.icmpYes X0.here hx rfl (pc0 := 44) (pc' := 124) rfl (hb hby d1_44) rfl (tlt hc44).2.2.1 (by decide) (by decide) ?_
  exact kt
def DA (c : Cell) (b : Int) : Prop := c.slots.size = 5 ∧ ∀ j, j < 5 → ∃ x : Int64, c.slots[j]? = some (.double (FP.l2d x)) ∧ -b ≤ x.toInt ∧ x.toInt ≤ b
def IA (c : Cell) : Prop := c.slots.size = 5 ∧ ∀ j, j < 5 → ∃ x : Int32, c.slots[j]? = some (.int x)
def D4 (c : Cell) (x : Nat → Int64) : Prop := c.slots.size = 4 ∧ ∀ j, j < 4 → c.slots[j]? = some (.double (FP.l2d (x j)))
theorem DA.set {c : Cell} {b b' : Int} {i : Nat} {x : Int64} (h : DA c b) (hb : b ≤ b') (h1 : -b' ≤ x.toInt) (h2 : x.toInt ≤ b') : DA (c.setSlot i (.double (FP.l2d x))) b' := by
  refine ⟨by rw [sz_set]; exact h.1, fun j hj => ?_⟩
  by_cases q : j = i
  · subst q
    exact ⟨x, own_set_at (by rw [h.1]; exact hj), h1, h2⟩
  · obtain ⟨y, y1, y2, y3⟩ := h.2 j hj
    exact ⟨y, by rw [own_set_ne q]; exact y1, by omega, by omega⟩
theorem IA.set {c : Cell} {i : Nat} {x : Int32} (h : IA c) : IA (c.setSlot i (.int x)) := by
  refine ⟨by rw [sz_set]; exact h.1, fun j hj => ?_⟩
  by_cases q : j = i
  · subst q
    exact ⟨x, own_set_at (by rw [h.1]; exact hj)⟩
  · obtain ⟨y, y1⟩ := h.2 j hj
    exact ⟨y, by rw [own_set_ne q]; exact y1⟩
theorem own_DA0 {Z : State} {h : Heap} {b : Addr} {kc : ClassId} (V : Arv Z h b kc .double (5 : Int32) [(.double (0 : UInt64)), (.double (0 : UInt64)), (.double (0 : UInt64)), (.double (0 : UInt64)), (.double (0 : UInt64))] (.double (0 : UInt64))) : ∃ c, Arr Z h b c .double ∧ DA c 0 := by
  obtain ⟨c, A, -, S, -, H, -⟩ := V
  have S5 : c.slots.size = 5 := S
  refine ⟨c, A, S5, fun j hj => ⟨0, ?_, by decide, by decide⟩⟩
  rw [H j (by omega), l2d_zero]
  match j, hj with
  | 0, _ => rfl
  | 1, _ => rfl
  | 2, _ => rfl
  | 3, _ => rfl
  | 4, _ => rfl
theorem own_IA0 {Z : State} {h : Heap} {b : Addr} {kc : ClassId} (V : Arv Z h b kc .int (5 : Int32) [(.int (0 : Int32)), (.int (0 : Int32)), (.int (0 : Int32)), (.int (0 : Int32)), (.int (0 : Int32))] (.int (0 : Int32))) : ∃ c, Arr Z h b c .int ∧ IA c := by
  obtain ⟨c, A, -, S, -, H, -⟩ := V
  have S5 : c.slots.size = 5 := S
  refine ⟨c, A, S5, fun j hj => ⟨0, ?_⟩⟩
  rw [H j (by omega)]
  match j, hj with
  | 0, _ => rfl
  | 1, _ => rfl
  | 2, _ => rfl
  | 3, _ => rfl
  | 4, _ => rfl
def CI (Z : State) (h : Heap) (o0 o1 w3 w9 w16 : Addr) (cl : Cell) (b : Int) : Prop := Fld Z h o0 "com/example/cycle_by_chance/cyclebychance/model/DemandToDate" "through" "[D" (.ref w3) ∧ Fld Z h o0 "com/example/cycle_by_chance/cyclebychance/model/DemandToDate" "summed" "[D" (.ref w9) ∧ Fld Z h o0 "com/example/cycle_by_chance/cyclebychance/model/DemandToDate" "above" "[I" (.ref w16) ∧ Arr Z h o1 cl .double ∧ (∃ c, Arr Z h w3 c .double ∧ DA c b) ∧ (∃ c, Arr Z h w9 c .double ∧ DA c b) ∧ ∃ c, Arr Z h w16 c .int ∧ IA c
theorem own_arrkeep {Z : State} {h h' : Heap} {a : Addr} {c : Cell} {ty : FieldType} {ws : List Addr} (A : Arr Z h a c ty) (K : Keep h h' ws) (q : a ∉ ws) : Arr Z h' a c ty := ⟨K.2.1 a c A.1 q, A.2⟩
theorem step1 {p : Program} {l : Launch} {e : Env} {R : Room} {s : State} {m : MethodId} {args : Array Value} {below : List Frame} {meth : Method} {c : Code} {T0 : State} {locs : List Loc} {cells slots : Nat} {Z : State} {a0 : Array Value} {h0 : Heap} {n0 : Nat} (N0 : Fr n0 locs) (o0 o1 w3 w9 w16 : Addr) (i2 : Int32) (cl : Cell) (x : Nat → Int64) (b : Int) (j : Nat)
    (X0 : Stand p l e R s m args below meth c T0 locs cells slots) (hx : p.tables.exec = Jvm.exec) (hZ : Z.Warmed39 s.vm) (hw : ∀ d ∈ tables_1, d.before a0 Z = true) (hby : c.code = prog_20_method_1_code) (hml : c.maxLocals = 3) (hown : s.vm.findClass "com/example/cycle_by_chance/cyclebychance/model/DemandToDate" = some m.cls) (e0 : T0.heap = h0)
    (I : CI Z h0 o0 o1 w3 w9 w16 cl b) (D : D4 cl x) (hxb : ∀ j, -2147483648 ≤ (x j).toInt ∧ (x j).toInt ≤ 2147483648) (b0 : 0 ≤ b) (b1 : b ≤ 1099511627776)
    (g3 : n0 ≤ w3) (g9 : n0 ≤ w9) (g16 : n0 ≤ w16) (n03 : o0 ≠ w3) (n09 : o0 ≠ w9) (n016 : o0 ≠ w16) (n13 : o1 ≠ w3) (n19 : o1 ≠ w9) (n116 : o1 ≠ w16) (n93 : w9 ≠ w3) (n163 : w16 ≠ w3) (n169 : w16 ≠ w9)
    (hi1 : (i2 - (1 : Int32)).toNatClampNeg = j) (hi2 : i2.toNatClampNeg = j + 1) (hi3 : ¬ (i2 - (1 : Int32)) < 0) (hi4 : ¬ i2 < 0) (hj : j < 4) (hi5 : ¬ ((4 : Int32) < i2)) :
    ∃ (T' : State) (h' : Heap) (locs' : List Loc), Stand p l e R s m args below meth c T' locs' cells slots ∧ T'.heap = h' ∧ Fr n0 locs' ∧ Keep h0 h' [w3, w9, w16] ∧ CI Z h' o0 o1 w3 w9 w16 cl (2 * b + 2147483648) ∧
      ∀ target, Steps p.tables e below (T'.setTop (mkF m 41 #[.val (.ref o0), .val (.ref o1), .val (.int (i2 + (1 : Int32)))] [])) target → Steps p.tables e below (T0.setTop (mkF m 41 #[.val (.ref o0), .val (.ref o1), .val (.int i2)] [])) target := by
  obtain ⟨Ft, Fs, Fa, A1, ⟨c3, A3, D3⟩, ⟨c9, A9, D9⟩, c16, A16, I16⟩ := I
  obtain ⟨y3, y3a, y3b, y3c⟩ := D3.2 j (by omega)
  obtain ⟨y9, y9a, y9b, y9c⟩ := D9.2 j (by omega)
  obtain ⟨y16, y16a⟩ := I16.2 j (by omega)
  have xb := hxb j
  have q3 : B53 y3 := ⟨by omega, by omega⟩
  have qx : B53 (x j) := ⟨by omega, by omega⟩
  have s1 := add64 q3 qx
  have qs : B53 (y3 + x j) := ⟨by omega, by omega⟩
  have q9 : B53 y9 := ⟨by omega, by omega⟩
  have s2 := add64 q9 qs
  have v1 := dadd_w q3 qx
  have v2 := dadd_w q9 qs
  have in1 : ∀ {n : Nat} {c : Cell}, c.slots.size = n → j < n → ¬ ((i2 - (1 : Int32)) < 0 ∨ c.slots.size ≤ ((i2 - (1 : Int32))).toNatClampNeg) := fun hs hn q => q.elim hi3 (fun q => by rw [hs, hi1] at q; omega)
  have in2 : ∀ {n : Nat} {c : Cell}, c.slots.size = n → j + 1 < n → ¬ (i2 < 0 ∨ c.slots.size ≤ (i2).toNatClampNeg) := fun hs hn q => q.elim hi4 (fun q => by rw [hs, hi2] at q; omega)
  obtain ⟨T', h', locs', X', e', ⟨N', K', B3, B9, z, B16⟩, st⟩ := turn1 (a0 := a0) N0 o0 o1 i2 cl w3 (FP.l2d y3) c3 (FP.l2d (x j)) (FP.l2d (y3 + x j)) w9 (FP.l2d y9) c9 (FP.l2d (y9 + (y3 + x j))) w16 y16 c16 X0 hx hZ hw hby hml hown e0 A1 (show cl.slots.size = (4 : Int32).toNatClampNeg from D.1) (by decide) Ft A3 (in1 D3.1 (by omega)) (by rw [hi1]; exact y3a) (in1 D.1 hj) (by rw [hi1]; exact D.2 j hj) (in2 D3.1 (by omega)) g3 Fs A9 (in1 D9.1 (by omega)) (by rw [hi1]; exact y9a) (in2 D9.1 (by omega)) g9 Fa A16 (in1 I16.1 (by omega)) (by rw [hi1]; exact y16a) (in1 D.1 hj) (by rw [hi1]; exact D.2 j hj) (in2 I16.1 (by omega)) g16 n03 n09 n13 n19 n93 n163 n169 hi5 v1 (nn_w v1) v2 (nn_w v2)
  have k0 : o0 ∉ [w3, w9, w16] := by simp only [List.mem_cons, List.not_mem_nil, or_false, not_or]; exact ⟨n03, n09, n016⟩
  have k1 : o1 ∉ [w3, w9, w16] := by simp only [List.mem_cons, List.not_mem_nil, or_false, not_or]; exact ⟨n13, n19, n116⟩
  exact ⟨T', h', locs', X', e', N', K', ⟨Ft.keep K' k0, Fs.keep K' k0, Fa.keep K' k0, own_arrkeep A1 K' k1, ⟨_, B3, D3.set (by omega) (by omega) (by omega)⟩, ⟨_, B9, D9.set (by omega) (by omega) (by omega)⟩, _, B16, I16.set⟩, st⟩
theorem d1_0 : decode prog_20_method_1_code 0 = .ok (.aload_n 0, 1) := by decide +kernel
theorem d1_1 : decode prog_20_method_1_code 1 = .ok (.invokespecial 1, 3) := by decide +kernel
theorem d1_4 : decode prog_20_method_1_code 4 = .ok (.aload_n 0, 1) := by decide +kernel
theorem d1_5 : decode prog_20_method_1_code 5 = .ok (.aload_n 1, 1) := by decide +kernel
theorem d1_6 : decode prog_20_method_1_code 6 = .ok (.putfield 7, 3) := by decide +kernel
theorem d1_9 : decode prog_20_method_1_code 9 = .ok (.aload_n 0, 1) := by decide +kernel
theorem d1_10 : decode prog_20_method_1_code 10 = .ok (.aload_n 1, 1) := by decide +kernel
theorem d1_11 : decode prog_20_method_1_code 11 = .ok (.arraylength, 1) := by decide +kernel
theorem d1_12 : decode prog_20_method_1_code 12 = .ok (.iconst 1, 1) := by decide +kernel
theorem d1_13 : decode prog_20_method_1_code 13 = .ok (.iadd, 1) := by decide +kernel
theorem d1_14 : decode prog_20_method_1_code 14 = .ok (.newarray .double, 2) := by decide +kernel
theorem d1_16 : decode prog_20_method_1_code 16 = .ok (.putfield 13, 3) := by decide +kernel
theorem d1_19 : decode prog_20_method_1_code 19 = .ok (.aload_n 0, 1) := by decide +kernel
theorem d1_20 : decode prog_20_method_1_code 20 = .ok (.aload_n 1, 1) := by decide +kernel
theorem d1_21 : decode prog_20_method_1_code 21 = .ok (.arraylength, 1) := by decide +kernel
theorem d1_22 : decode prog_20_method_1_code 22 = .ok (.iconst 1, 1) := by decide +kernel
theorem d1_23 : decode prog_20_method_1_code 23 = .ok (.iadd, 1) := by decide +kernel
theorem d1_24 : decode prog_20_method_1_code 24 = .ok (.newarray .double, 2) := by decide +kernel
theorem d1_26 : decode prog_20_method_1_code 26 = .ok (.putfield 16, 3) := by decide +kernel
theorem d1_29 : decode prog_20_method_1_code 29 = .ok (.aload_n 0, 1) := by decide +kernel
theorem d1_30 : decode prog_20_method_1_code 30 = .ok (.aload_n 1, 1) := by decide +kernel
theorem d1_31 : decode prog_20_method_1_code 31 = .ok (.arraylength, 1) := by decide +kernel
theorem d1_32 : decode prog_20_method_1_code 32 = .ok (.iconst 1, 1) := by decide +kernel
theorem d1_33 : decode prog_20_method_1_code 33 = .ok (.iadd, 1) := by decide +kernel
theorem d1_34 : decode prog_20_method_1_code 34 = .ok (.newarray .int, 2) := by decide +kernel
theorem d1_36 : decode prog_20_method_1_code 36 = .ok (.putfield 19, 3) := by decide +kernel
theorem d1_39 : decode prog_20_method_1_code 39 = .ok (.iconst 1, 1) := by decide +kernel
theorem d1_40 : decode prog_20_method_1_code 40 = .ok (.istore_n 2, 1) := by decide +kernel
theorem d1_124 : decode prog_20_method_1_code 124 = .ok (.return_, 1) := by decide +kernel
theorem pn_1 : plainName "com/example/cycle_by_chance/cyclebychance/model/DemandToDate" = true := by first | (simp [plainName, overriddenIn]; done) | decide +kernel
theorem ef_1 (m : MethodId) (x0 : Addr) (x1 : Addr) : entryFrame m #[(.ref x0), (.ref x1)] 3 = mkF m 0 #[.val (.ref x0), .val (.ref x1), .unset] [] := by first | (simp [entryFrame, mkF, argsToLocals, Value.category]; done) | rfl
def Q1 (Z : State) (a1 a2 : Addr) (h0 : Heap) (n0 : Nat) (v : Option Value) (h : Heap) (L : List Loc) : Prop := v = none ∧ Fr n0 L ∧ Keep h0 h [a1] ∧ Exa Z h a1 "com/example/cycle_by_chance/cyclebychance/model/DemandToDate" ∧ Fld Z h a1 "com/example/cycle_by_chance/cyclebychance/model/DemandToDate" "demand" "[D" (.ref a2)
set_option maxRecDepth 65536 in
set_option maxHeartbeats 40000000 in
theorem rm1 (l : Launch) (Z : State) (a0 : Array Value) (hw : ∀ d ∈ tables_1, d.before a0 Z = true) (ws : List Jvm.Cond) (a1 : Addr) (a2 : Addr) (x : Nat → Int64) (u_demand_a1 : Value) (cl_a2 : Cell) (u_through_a1 : Value) (u_summed_a1 : Value) (u_above_a1 : Value) (h0 : Heap) (n0 : Nat) (Z0 : n0 ≤ h0.size) (E_a1 : Exa Z h0 a1 "com/example/cycle_by_chance/cyclebychance/model/DemandToDate") (F_demand_a1 : Fld Z h0 a1 "com/example/cycle_by_chance/cyclebychance/model/DemandToDate" "demand" "[D" u_demand_a1) (F_through_a1 : Fld Z h0 a1 "com/example/cycle_by_chance/cyclebychance/model/DemandToDate" "through" "[D" u_through_a1) (F_summed_a1 : Fld Z h0 a1 "com/example/cycle_by_chance/cyclebychance/model/DemandToDate" "summed" "[D" u_summed_a1) (F_above_a1 : Fld Z h0 a1 "com/example/cycle_by_chance/cyclebychance/model/DemandToDate" "above" "[I" u_above_a1) (g_a1 : n0 ≤ a1) (Ar_a2 : Arr Z h0 a2 cl_a2 .double) (D : D4 cl_a2 x) (hxb : ∀ j, -2147483648 ≤ (x j).toInt ∧ (x j).toInt ≤ 2147483648) (n21 : a2 ≠ a1) :
    MetFree l (⟨"com/example/cycle_by_chance/cyclebychance/model/DemandToDate", "<init>", "([D)V"⟩ : MethodName) (head1 (Jvm.Cond.code (⟨"com/example/cycle_by_chance/cyclebychance/model/DemandToDate", "<init>", "([D)V"⟩ : MethodName) prog_20_method_1_code 3 none :: ws) ({ frames := 1, cells := 3, slots := 15, locals := 12 } : Room)) (fun a U => a = #[(.ref a1), (.ref a2)] ∧ Z.Warmed39 U.vm ∧ U.heap = h0) (fun _ _ _ _ _ => True) (fun _ U o U' => ∃ v L, o = .returned v ∧ Q1 Z a1 a2 h0 n0 v U'.heap L ∧ FrameEnd U o U' L ({ frames := 1, cells := 3, slots := 15, locals := 12 } : Room).cells ({ frames := 1, cells := 3, slots := 15, locals := 12 } : Room).slots) := by
  refine MetFree.of_bodySF (plainFor_of_name pn_1) hisR ?_
  intro p e s m args below meth c s₁ Bd hml0 hP hK
  obtain ⟨rfl, hZ, hh⟩ := hP
  have hx := Bd.exec
  have hby := Bd.bytes
  have hml : c.maxLocals = 3 := hml0
  have hown : s.vm.findClass "com/example/cycle_by_chance/cyclebychance/model/DemandToDate" = some m.cls := findClass_of_methodNamed Bd.named
  have hnm := (name_of_methodNamed Bd.named Bd.method).1
  have X0 : Stand p l e ({ frames := 1, cells := 3, slots := 15, locals := 12 } : Room) s m #[(.ref a1), (.ref a2)] below meth c s₁ [] 0 0 := Stand.of_body Bd
  have e0 : s₁.heap = h0 := by rw [← hh, Bd.state]; rfl
  have N0 := Fr.nil n0
  have pre0 : ∀ t, Steps p.tables e below (s₁.setTop (mkF m 0 #[.val (.ref a1), .val (.ref a2), .unset] [])) t → Steps p.tables e below (s₁.setTop (entryFrame m #[(.ref a1), (.ref a2)] 3)) t := fun t k => castTop (ef_1 m a1 a2) k
  have S_a2 : cl_a2.slots.size = (4 : Int32).toNatClampNeg := D.1
  have N_a2 : ¬ (4 : Int32) < 0 := by decide
  obtain ⟨T3, X3, e3, st3⟩ := initO X0 hx hZ hown (hw _ (List.mem_of_getElem? (i := 7) rfl)) (hw _ (List.mem_of_getElem? (i := 8) rfl)) (hw _ (List.mem_of_getElem? (i := 9) rfl)) e0 (g := (mkF m 1 #[.val (.ref a1), .val (.ref a2), .unset] [(.ref a1)])) rfl (by rw [hml]; rfl) rfl (hb hby d1_1) (by decide) (W := 0) (by show 2 * 0 + _ ≤ _; exact Nat.le_of_eq rfl) (by decide)
  obtain ⟨T4, h4, X4, e4, W4, st4⟩ := putF X3 hx hZ hown (host := "") (Or.inl (hw _ (List.mem_of_getElem? (i := 10) rfl))) Via.refl e3 F_demand_a1 E_a1 (Or.inr ⟨(hw _ (List.mem_of_getElem? (i := 11) rfl)), rfl, hnm⟩) (hw _ (List.mem_of_getElem? (i := 2) rfl)) (ty := (.array .double)) (by decide) rfl rfl (g := (mkF m 6 #[.val (.ref a1), .val (.ref a2), .unset] [(.ref a2), (.ref a1)])) rfl rfl (hb hby d1_6)
  have Fw4 := F_demand_a1.same W4
  have K4 : Keep h0 h4 [a1] := (Keep.refl h0 [a1]).wr W4 (Or.inl (List.mem_of_getElem? (i := 0) rfl))
  have N4 := Fr.snoc X4 N0 g_a1
  obtain ⟨T5, h5, k5, X5, e5, E5, A5, st5⟩ := newP X4 hx hZ (hw _ (List.mem_of_getElem? (i := 0) rfl)) e4 (g := (mkF m 14 #[.val (.ref a1), .val (.ref a2), .unset] [(.int (5 : Int32)), (.ref a1)])) rfl (hb hby d1_14) rfl (by decide) (cap := 5) (by decide) (by decide) (by decide) (by decide)
  obtain ⟨b5, g5⟩ : ∃ z, z = h4.size := ⟨_, rfl⟩
  rw [← g5] at A5 st5
  have V_b5 : Arv Z h5 b5 k5 .double (5 : Int32) [(.double (0 : UInt64)), (.double (0 : UInt64)), (.double (0 : UInt64)), (.double (0 : UInt64)), (.double (0 : UInt64))] (.double (0 : UInt64)) := (Arv.new A5 (by decide)).pad (pad_rep [] (.double (0 : UInt64)) 5)
  have g_b5 : n0 ≤ b5 := Nat.le_trans (Nat.le_trans Z0 (Keep.of_wr W4).1) (Nat.le_of_eq g5.symm)
  have sz_b5 : h0.size ≤ b5 := (Nat.le_trans K4.1 (Nat.le_of_eq g5.symm))
  have K5 : Keep h0 h5 [a1] := K4.ext E5
  obtain ⟨T6, h6, X6, e6, W6, st6⟩ := putF X5 hx hZ hown (host := "") (Or.inl (hw _ (List.mem_of_getElem? (i := 12) rfl))) Via.refl e5 ((F_through_a1.other W4 (Or.inr (slot_ne (Or.inr (hw _ (List.mem_of_getElem? (i := 13) rfl))) (Or.inr (hw _ (List.mem_of_getElem? (i := 11) rfl))) (by decide) (t := (.array .double)) (t' := (.array .double)) (by decide) (by decide)))).ext E5) ((E_a1.wr W4).ext E5) (Or.inr ⟨(hw _ (List.mem_of_getElem? (i := 13) rfl)), rfl, hnm⟩) (hw _ (List.mem_of_getElem? (i := 2) rfl)) (ty := (.array .double)) (by decide) rfl rfl (g := (mkF m 16 #[.val (.ref a1), .val (.ref a2), .unset] [(.ref b5), (.ref a1)])) rfl rfl (hb hby d1_16)
  have Fw6 := ((F_through_a1.other W4 (Or.inr (slot_ne (Or.inr (hw _ (List.mem_of_getElem? (i := 13) rfl))) (Or.inr (hw _ (List.mem_of_getElem? (i := 11) rfl))) (by decide) (t := (.array .double)) (t' := (.array .double)) (by decide) (by decide)))).ext E5).same W6
  have K6 : Keep h0 h6 [a1] := K5.wr W6 (Or.inl (List.mem_of_getElem? (i := 0) rfl))
  have N6 := Fr.snoc X6 N4 g_a1
  obtain ⟨T7, h7, k7, X7, e7, E7, A7, st7⟩ := newP X6 hx hZ (hw _ (List.mem_of_getElem? (i := 0) rfl)) e6 (g := (mkF m 24 #[.val (.ref a1), .val (.ref a2), .unset] [(.int (5 : Int32)), (.ref a1)])) rfl (hb hby d1_24) rfl (by decide) (cap := 5) (by decide) (by decide) (by decide) (by decide)
  obtain ⟨b7, g7⟩ : ∃ z, z = h6.size := ⟨_, rfl⟩
  rw [← g7] at A7 st7
  have V_b7 : Arv Z h7 b7 k7 .double (5 : Int32) [(.double (0 : UInt64)), (.double (0 : UInt64)), (.double (0 : UInt64)), (.double (0 : UInt64)), (.double (0 : UInt64))] (.double (0 : UInt64)) := (Arv.new A7 (by decide)).pad (pad_rep [] (.double (0 : UInt64)) 5)
  have g_b7 : n0 ≤ b7 := Nat.le_trans (Nat.le_trans (Nat.le_trans (Nat.le_trans Z0 (Keep.of_wr W4).1) E5.1) (Keep.of_wr W6).1) (Nat.le_of_eq g7.symm)
  have sz_b7 : h0.size ≤ b7 := (Nat.le_trans K6.1 (Nat.le_of_eq g7.symm))
  have K7 : Keep h0 h7 [a1] := K6.ext E7
  obtain ⟨T8, h8, X8, e8, W8, st8⟩ := putF X7 hx hZ hown (host := "") (Or.inl (hw _ (List.mem_of_getElem? (i := 14) rfl))) Via.refl e7 ((((F_summed_a1.other W4 (Or.inr (slot_ne (Or.inr (hw _ (List.mem_of_getElem? (i := 15) rfl))) (Or.inr (hw _ (List.mem_of_getElem? (i := 11) rfl))) (by decide) (t := (.array .double)) (t' := (.array .double)) (by decide) (by decide)))).ext E5).other W6 (Or.inr (slot_ne (Or.inr (hw _ (List.mem_of_getElem? (i := 15) rfl))) (Or.inr (hw _ (List.mem_of_getElem? (i := 13) rfl))) (by decide) (t := (.array .double)) (t' := (.array .double)) (by decide) (by decide)))).ext E7) ((((E_a1.wr W4).ext E5).wr W6).ext E7) (Or.inr ⟨(hw _ (List.mem_of_getElem? (i := 15) rfl)), rfl, hnm⟩) (hw _ (List.mem_of_getElem? (i := 2) rfl)) (ty := (.array .double)) (by decide) rfl rfl (g := (mkF m 26 #[.val (.ref a1), .val (.ref a2), .unset] [(.ref b7), (.ref a1)])) rfl rfl (hb hby d1_26)
  have Fw8 := ((((F_summed_a1.other W4 (Or.inr (slot_ne (Or.inr (hw _ (List.mem_of_getElem? (i := 15) rfl))) (Or.inr (hw _ (List.mem_of_getElem? (i := 11) rfl))) (by decide) (t := (.array .double)) (t' := (.array .double)) (by decide) (by decide)))).ext E5).other W6 (Or.inr (slot_ne (Or.inr (hw _ (List.mem_of_getElem? (i := 15) rfl))) (Or.inr (hw _ (List.mem_of_getElem? (i := 13) rfl))) (by decide) (t := (.array .double)) (t' := (.array .double)) (by decide) (by decide)))).ext E7).same W8
  have K8 : Keep h0 h8 [a1] := K7.wr W8 (Or.inl (List.mem_of_getElem? (i := 0) rfl))
  have N8 := Fr.snoc X8 N6 g_a1
  obtain ⟨T9, h9, k9, X9, e9, E9, A9, st9⟩ := newP X8 hx hZ (hw _ (List.mem_of_getElem? (i := 16) rfl)) e8 (g := (mkF m 34 #[.val (.ref a1), .val (.ref a2), .unset] [(.int (5 : Int32)), (.ref a1)])) rfl (hb hby d1_34) rfl (by decide) (cap := 5) (by decide) (by decide) (by decide) (by decide)
  obtain ⟨b9, g9⟩ : ∃ z, z = h8.size := ⟨_, rfl⟩
  rw [← g9] at A9 st9
  have V_b9 : Arv Z h9 b9 k9 .int (5 : Int32) [(.int (0 : Int32)), (.int (0 : Int32)), (.int (0 : Int32)), (.int (0 : Int32)), (.int (0 : Int32))] (.int (0 : Int32)) := (Arv.new A9 (by decide)).pad (pad_rep [] (.int (0 : Int32)) 5)
  have g_b9 : n0 ≤ b9 := Nat.le_trans (Nat.le_trans (Nat.le_trans (Nat.le_trans (Nat.le_trans (Nat.le_trans Z0 (Keep.of_wr W4).1) E5.1) (Keep.of_wr W6).1) E7.1) (Keep.of_wr W8).1) (Nat.le_of_eq g9.symm)
  have sz_b9 : h0.size ≤ b9 := (Nat.le_trans K8.1 (Nat.le_of_eq g9.symm))
  have K9 : Keep h0 h9 [a1] := K8.ext E9
  obtain ⟨T10, h10, X10, e10, W10, st10⟩ := putF X9 hx hZ hown (host := "") (Or.inl (hw _ (List.mem_of_getElem? (i := 17) rfl))) Via.refl e9 ((((((F_above_a1.other W4 (Or.inr (slot_ne (Or.inr (hw _ (List.mem_of_getElem? (i := 18) rfl))) (Or.inr (hw _ (List.mem_of_getElem? (i := 11) rfl))) (by decide) (t := (.array .int)) (t' := (.array .double)) (by decide) (by decide)))).ext E5).other W6 (Or.inr (slot_ne (Or.inr (hw _ (List.mem_of_getElem? (i := 18) rfl))) (Or.inr (hw _ (List.mem_of_getElem? (i := 13) rfl))) (by decide) (t := (.array .int)) (t' := (.array .double)) (by decide) (by decide)))).ext E7).other W8 (Or.inr (slot_ne (Or.inr (hw _ (List.mem_of_getElem? (i := 18) rfl))) (Or.inr (hw _ (List.mem_of_getElem? (i := 15) rfl))) (by decide) (t := (.array .int)) (t' := (.array .double)) (by decide) (by decide)))).ext E9) ((((((E_a1.wr W4).ext E5).wr W6).ext E7).wr W8).ext E9) (Or.inr ⟨(hw _ (List.mem_of_getElem? (i := 18) rfl)), rfl, hnm⟩) (hw _ (List.mem_of_getElem? (i := 2) rfl)) (ty := (.array .int)) (by decide) rfl rfl (g := (mkF m 36 #[.val (.ref a1), .val (.ref a2), .unset] [(.ref b9), (.ref a1)])) rfl rfl (hb hby d1_36)
  have Fw10 := ((((((F_above_a1.other W4 (Or.inr (slot_ne (Or.inr (hw _ (List.mem_of_getElem? (i := 18) rfl))) (Or.inr (hw _ (List.mem_of_getElem? (i := 11) rfl))) (by decide) (t := (.array .int)) (t' := (.array .double)) (by decide) (by decide)))).ext E5).other W6 (Or.inr (slot_ne (Or.inr (hw _ (List.mem_of_getElem? (i := 18) rfl))) (Or.inr (hw _ (List.mem_of_getElem? (i := 13) rfl))) (by decide) (t := (.array .int)) (t' := (.array .double)) (by decide) (by decide)))).ext E7).other W8 (Or.inr (slot_ne (Or.inr (hw _ (List.mem_of_getElem? (i := 18) rfl))) (Or.inr (hw _ (List.mem_of_getElem? (i := 15) rfl))) (by decide) (t := (.array .int)) (t' := (.array .double)) (by decide) (by decide)))).ext E9).same W10
  have K10 : Keep h0 h10 [a1] := K9.wr W10 (Or.inl (List.mem_of_getElem? (i := 0) rfl))
  have N10 := Fr.snoc X10 N8 g_a1
  have Aa4 := (Ar_a2.other W4 n21)
  have Aa6 := (((Ar_a2.other W4 n21).ext E5).other W6 n21)
  have Aa8 := (((((Ar_a2.other W4 n21).ext E5).other W6 n21).ext E7).other W8 n21)
  have Aa10 := (((((((Ar_a2.other W4 n21).ext E5).other W6 n21).ext E7).other W8 n21).ext E9).other W10 n21)
  have n15 : a1 ≠ b5 := Nat.ne_of_lt (Nat.lt_of_lt_of_le E_a1.lt sz_b5)
  have n17 : a1 ≠ b7 := Nat.ne_of_lt (Nat.lt_of_lt_of_le E_a1.lt sz_b7)
  have n19 : a1 ≠ b9 := Nat.ne_of_lt (Nat.lt_of_lt_of_le E_a1.lt sz_b9)
  have m15 : a2 ≠ b5 := Nat.ne_of_lt (Nat.lt_of_lt_of_le Ar_a2.lt sz_b5)
  have m17 : a2 ≠ b7 := Nat.ne_of_lt (Nat.lt_of_lt_of_le Ar_a2.lt sz_b7)
  have m19 : a2 ≠ b9 := Nat.ne_of_lt (Nat.lt_of_lt_of_le Ar_a2.lt sz_b9)
  have V56 := V_b5.other W6 n15.symm
  have k75 : b7 ≠ b5 := (Nat.ne_of_lt (Nat.lt_of_lt_of_eq V56.lt g7.symm)).symm
  have V58 := (V56.ext E7).other W8 n15.symm
  have V78 := V_b7.other W8 n17.symm
  have k95 : b9 ≠ b5 := (Nat.ne_of_lt (Nat.lt_of_lt_of_eq V58.lt g9.symm)).symm
  have k97 : b9 ≠ b7 := (Nat.ne_of_lt (Nat.lt_of_lt_of_eq V78.lt g9.symm)).symm
  have I10 : CI Z h10 a1 a2 b5 b7 b9 cl_a2 0 := ⟨(((Fw6.ext E7).other W8 (Or.inr (slot_ne (Or.inr (hw _ (List.mem_of_getElem? (i := 13) rfl))) (Or.inr (hw _ (List.mem_of_getElem? (i := 15) rfl))) (by decide) (t := (.array .double)) (t' := (.array .double)) (by decide) (by decide)))).ext E9).other W10 (Or.inr (slot_ne (Or.inr (hw _ (List.mem_of_getElem? (i := 13) rfl))) (Or.inr (hw _ (List.mem_of_getElem? (i := 18) rfl))) (by decide) (t := (.array .double)) (t' := (.array .int)) (by decide) (by decide))), (Fw8.ext E9).other W10 (Or.inr (slot_ne (Or.inr (hw _ (List.mem_of_getElem? (i := 15) rfl))) (Or.inr (hw _ (List.mem_of_getElem? (i := 18) rfl))) (by decide) (t := (.array .double)) (t' := (.array .int)) (by decide) (by decide))), Fw10, Aa10, own_DA0 ((V58.ext E9).other W10 n15.symm), own_DA0 ((V78.ext E9).other W10 n17.symm), own_IA0 (V_b9.other W10 n19.symm)⟩
  obtain ⟨L1T, L1h, L1l, L1X, L1e, L1N, L1K, L1I, L1s⟩ := step1 (a0 := a0) N10 a1 a2 b5 b7 b9 (1 : Int32) cl_a2 x 0 0 X10 hx hZ hw hby hml hown e10 I10 D hxb (by decide) (by decide) g_b5 g_b7 g_b9 n15 n17 n19 m15 m17 m19 k75 k95 k97 (by decide) (by decide) (by decide) (by decide) (by decide) (by decide)
  rw [show (2 * 0 + 2147483648 : Int) = 2147483648 from rfl] at L1I
  obtain ⟨L2T, L2h, L2l, L2X, L2e, L2N, L2K, L2I, L2s⟩ := step1 (a0 := a0) L1N a1 a2 b5 b7 b9 (2 : Int32) cl_a2 x 2147483648 1 L1X hx hZ hw hby hml hown L1e L1I D hxb (by decide) (by decide) g_b5 g_b7 g_b9 n15 n17 n19 m15 m17 m19 k75 k95 k97 (by decide) (by decide) (by decide) (by decide) (by decide) (by decide)
  rw [show (2 * 2147483648 + 2147483648 : Int) = 6442450944 from rfl] at L2I
  obtain ⟨L3T, L3h, L3l, L3X, L3e, L3N, L3K, L3I, L3s⟩ := step1 (a0 := a0) L2N a1 a2 b5 b7 b9 (3 : Int32) cl_a2 x 6442450944 2 L2X hx hZ hw hby hml hown L2e L2I D hxb (by decide) (by decide) g_b5 g_b7 g_b9 n15 n17 n19 m15 m17 m19 k75 k95 k97 (by decide) (by decide) (by decide) (by decide) (by decide) (by decide)
  rw [show (2 * 6442450944 + 2147483648 : Int) = 15032385536 from rfl] at L3I
  obtain ⟨L4T, L4h, L4l, L4X, L4e, L4N, L4K, L4I, L4s⟩ := step1 (a0 := a0) L3N a1 a2 b5 b7 b9 (4 : Int32) cl_a2 x 15032385536 3 L3X hx hZ hw hby hml hown L3e L3I D hxb (by decide) (by decide) g_b5 g_b7 g_b9 n15 n17 n19 m15 m17 m19 k75 k95 k97 (by decide) (by decide) (by decide) (by decide) (by decide) (by decide)
  rw [show (2 * 15032385536 + 2147483648 : Int) = 32212254720 from rfl] at L4I
  obtain ⟨T5x, X5x, e5x, st5x⟩ := exit1 (a0 := a0) (.val (.ref a1)) a2 (5 : Int32) cl_a2 L4X hx hZ hw hby hml hown L4e L4I.2.2.2.1 S_a2 N_a2 (by decide)
  have kw : ∀ y ∈ [b5, b7, b9], y ∈ [a1] ∨ h0.size ≤ y := fun y hy => by
    simp only [List.mem_cons, List.not_mem_nil, or_false] at hy
    rcases hy with rfl | rfl | rfl
    · exact Or.inr sz_b5
    · exact Or.inr sz_b7
    · exact Or.inr sz_b9
  have KA := (((K10.trans L1K kw).trans L2K kw).trans L3K kw).trans L4K kw
  have w1 : a1 ∉ [b5, b7, b9] := by simp only [List.mem_cons, List.not_mem_nil, or_false, not_or]; exact ⟨n15, n17, n19⟩
  have FD := (((((((Fw4.ext E5).other W6 (Or.inr (slot_ne (Or.inr (hw _ (List.mem_of_getElem? (i := 11) rfl))) (Or.inr (hw _ (List.mem_of_getElem? (i := 13) rfl))) (by decide) (t := (.array .double)) (t' := (.array .double)) (by decide) (by decide)))).ext E7).other W8 (Or.inr (slot_ne (Or.inr (hw _ (List.mem_of_getElem? (i := 11) rfl))) (Or.inr (hw _ (List.mem_of_getElem? (i := 15) rfl))) (by decide) (t := (.array .double)) (t' := (.array .double)) (by decide) (by decide)))).ext E9).other W10 (Or.inr (slot_ne (Or.inr (hw _ (List.mem_of_getElem? (i := 11) rfl))) (Or.inr (hw _ (List.mem_of_getElem? (i := 18) rfl))) (by decide) (t := (.array .double)) (t' := (.array .int)) (by decide) (by decide)))).keep L1K w1).keep L2K w1 |>.keep L3K w1 |>.keep L4K w1
  have EA := ((((((((((E_a1.wr W4).ext E5).wr W6).ext E7).wr W8).ext E9).wr W10).keep L1K).keep L2K).keep L3K).keep L4K
  obtain ⟨fs, hr, hrun, hended, hW, hsame⟩ := X5x.leave (v := none) (fun _ => rfl)
  refine ⟨_, _, pre0 _ ?_, hrun, hended, _, _, rfl, ?_, ⟨_, rfl⟩, hW, hsame.mono (by decide) (by decide)⟩
  · show Steps p.tables e below (s₁.setTop (mkF m 0 #[.val (.ref a1), .val (.ref a2), .unset] [])) _
    refine XS.aloadN X0.here hx rfl (hb hby d1_0) rfl rfl ?_
    show Steps p.tables e below (s₁.setTop (mkF m 1 #[.val (.ref a1), .val (.ref a2), .unset] [(.ref a1)])) _
    refine st3 _ ?_
    show Steps p.tables e below (T3.setTop (mkF m 4 #[.val (.ref a1), .val (.ref a2), .unset] [])) _
    refine XS.aloadN X3.here hx rfl (hb hby d1_4) rfl rfl ?_
    show Steps p.tables e below (T3.setTop (mkF m 5 #[.val (.ref a1), .val (.ref a2), .unset] [(.ref a1)])) _
    refine XS.aloadN X3.here hx rfl (hb hby d1_5) rfl rfl ?_
    show Steps p.tables e below (T3.setTop (mkF m 6 #[.val (.ref a1), .val (.ref a2), .unset] [(.ref a2), (.ref a1)])) _
    refine st4 _ ?_
    show Steps p.tables e below (T4.setTop (mkF m 9 #[.val (.ref a1), .val (.ref a2), .unset] [])) _
    refine XS.aloadN X4.here hx rfl (hb hby d1_9) rfl rfl ?_
    show Steps p.tables e below (T4.setTop (mkF m 10 #[.val (.ref a1), .val (.ref a2), .unset] [(.ref a1)])) _
    refine XS.aloadN X4.here hx rfl (hb hby d1_10) rfl rfl ?_
    show Steps p.tables e below (T4.setTop (mkF m 11 #[.val (.ref a1), .val (.ref a2), .unset] [(.ref a2), (.ref a1)])) _
    refine X4.arraylength hx (by rw [e4]; exact Aa4.1) (State.isArrayOf_alike hZ.alike Aa4.2.1) (g := (mkF m 11 #[.val (.ref a1), .val (.ref a2), .unset] [(.ref a2), (.ref a1)])) rfl rfl (hb hby d1_11) _ ?_
    rw [len_of S_a2 N_a2]
    show Steps p.tables e below (T4.setTop (mkF m 12 #[.val (.ref a1), .val (.ref a2), .unset] [(.int (4 : Int32)), (.ref a1)])) _
    refine XS.iconst X4.here hx rfl (hb hby d1_12) ?_
    show Steps p.tables e below (T4.setTop (mkF m 13 #[.val (.ref a1), .val (.ref a2), .unset] [(.int (1 : Int32)), (.int (4 : Int32)), (.ref a1)])) _
    refine XS.iadd X4.here hx rfl (hb hby d1_13) rfl ?_
    show Steps p.tables e below (T4.setTop (mkF m 14 #[.val (.ref a1), .val (.ref a2), .unset] [(.int (5 : Int32)), (.ref a1)])) _
    refine st5 _ ?_
    show Steps p.tables e below (T5.setTop (mkF m 16 #[.val (.ref a1), .val (.ref a2), .unset] [(.ref b5), (.ref a1)])) _
    refine st6 _ ?_
    show Steps p.tables e below (T6.setTop (mkF m 19 #[.val (.ref a1), .val (.ref a2), .unset] [])) _
    refine XS.aloadN X6.here hx rfl (hb hby d1_19) rfl rfl ?_
    show Steps p.tables e below (T6.setTop (mkF m 20 #[.val (.ref a1), .val (.ref a2), .unset] [(.ref a1)])) _
    refine XS.aloadN X6.here hx rfl (hb hby d1_20) rfl rfl ?_
    show Steps p.tables e below (T6.setTop (mkF m 21 #[.val (.ref a1), .val (.ref a2), .unset] [(.ref a2), (.ref a1)])) _
    refine X6.arraylength hx (by rw [e6]; exact Aa6.1) (State.isArrayOf_alike hZ.alike Aa6.2.1) (g := (mkF m 21 #[.val (.ref a1), .val (.ref a2), .unset] [(.ref a2), (.ref a1)])) rfl rfl (hb hby d1_21) _ ?_
    rw [len_of S_a2 N_a2]
    show Steps p.tables e below (T6.setTop (mkF m 22 #[.val (.ref a1), .val (.ref a2), .unset] [(.int (4 : Int32)), (.ref a1)])) _
    refine XS.iconst X6.here hx rfl (hb hby d1_22) ?_
    show Steps p.tables e below (T6.setTop (mkF m 23 #[.val (.ref a1), .val (.ref a2), .unset] [(.int (1 : Int32)), (.int (4 : Int32)), (.ref a1)])) _
    refine XS.iadd X6.here hx rfl (hb hby d1_23) rfl ?_
    show Steps p.tables e below (T6.setTop (mkF m 24 #[.val (.ref a1), .val (.ref a2), .unset] [(.int (5 : Int32)), (.ref a1)])) _
    refine st7 _ ?_
    show Steps p.tables e below (T7.setTop (mkF m 26 #[.val (.ref a1), .val (.ref a2), .unset] [(.ref b7), (.ref a1)])) _
    refine st8 _ ?_
    show Steps p.tables e below (T8.setTop (mkF m 29 #[.val (.ref a1), .val (.ref a2), .unset] [])) _
    refine XS.aloadN X8.here hx rfl (hb hby d1_29) rfl rfl ?_
    show Steps p.tables e below (T8.setTop (mkF m 30 #[.val (.ref a1), .val (.ref a2), .unset] [(.ref a1)])) _
    refine XS.aloadN X8.here hx rfl (hb hby d1_30) rfl rfl ?_
    show Steps p.tables e below (T8.setTop (mkF m 31 #[.val (.ref a1), .val (.ref a2), .unset] [(.ref a2), (.ref a1)])) _
    refine X8.arraylength hx (by rw [e8]; exact Aa8.1) (State.isArrayOf_alike hZ.alike Aa8.2.1) (g := (mkF m 31 #[.val (.ref a1), .val (.ref a2), .unset] [(.ref a2), (.ref a1)])) rfl rfl (hb hby d1_31) _ ?_
    rw [len_of S_a2 N_a2]
    show Steps p.tables e below (T8.setTop (mkF m 32 #[.val (.ref a1), .val (.ref a2), .unset] [(.int (4 : Int32)), (.ref a1)])) _
    refine XS.iconst X8.here hx rfl (hb hby d1_32) ?_
    show Steps p.tables e below (T8.setTop (mkF m 33 #[.val (.ref a1), .val (.ref a2), .unset] [(.int (1 : Int32)), (.int (4 : Int32)), (.ref a1)])) _
    refine XS.iadd X8.here hx rfl (hb hby d1_33) rfl ?_
    show Steps p.tables e below (T8.setTop (mkF m 34 #[.val (.ref a1), .val (.ref a2), .unset] [(.int (5 : Int32)), (.ref a1)])) _
    refine st9 _ ?_
    show Steps p.tables e below (T9.setTop (mkF m 36 #[.val (.ref a1), .val (.ref a2), .unset] [(.ref b9), (.ref a1)])) _
    refine st10 _ ?_
    show Steps p.tables e below (T10.setTop (mkF m 39 #[.val (.ref a1), .val (.ref a2), .unset] [])) _
    refine XS.iconst X10.here hx rfl (hb hby d1_39) ?_
    show Steps p.tables e below (T10.setTop (mkF m 40 #[.val (.ref a1), .val (.ref a2), .unset] [(.int (1 : Int32))])) _
    refine XS.istoreN X10.here hx rfl (hb hby d1_40) rfl (l' := #[.val (.ref a1), .val (.ref a2), .val (.int (1 : Int32))]) rfl ?_
    show Steps p.tables e below (T10.setTop (mkF m 41 #[.val (.ref a1), .val (.ref a2), .val (.int (1 : Int32))] [])) _
    refine L1s _ (L2s _ (L3s _ (L4s _ (st5x _ ?_))))
    exact X5x.returnOut hx Bd.returns (hb hby d1_124) hr
  · show Q1 Z a1 a2 h0 n0 _ T5x.heap _
    rw [e5x]
    exact ⟨rfl, L4N, KA, EA, FD⟩
theorem d3_6 : decode prog_20_method_8_code 6 = .ok (.iload 9, 2) := by decide +kernel
theorem d3_8 : decode prog_20_method_8_code 8 = .ok (.iload 5, 2) := by decide +kernel
theorem d3_10 : decode prog_20_method_8_code 10 = .ok (.if_icmp .gt 41, 3) := by decide +kernel
theorem d3_13 : decode prog_20_method_8_code 13 = .ok (.dload 7, 2) := by decide +kernel
theorem d3_15 : decode prog_20_method_8_code 15 = .ok (.aload_n 0, 1) := by decide +kernel
theorem d3_16 : decode prog_20_method_8_code 16 = .ok (.getfield 7, 3) := by decide +kernel
theorem d3_19 : decode prog_20_method_8_code 19 = .ok (.iload 9, 2) := by decide +kernel
theorem d3_21 : decode prog_20_method_8_code 21 = .ok (.iconst 1, 1) := by decide +kernel
theorem d3_22 : decode prog_20_method_8_code 22 = .ok (.isub, 1) := by decide +kernel
theorem d3_23 : decode prog_20_method_8_code 23 = .ok (.daload, 1) := by decide +kernel
theorem d3_24 : decode prog_20_method_8_code 24 = .ok (.dadd, 1) := by decide +kernel
theorem d3_25 : decode prog_20_method_8_code 25 = .ok (.dstore 7, 2) := by decide +kernel
theorem d3_27 : decode prog_20_method_8_code 27 = .ok (.iload 9, 2) := by decide +kernel
theorem d3_29 : decode prog_20_method_8_code 29 = .ok (.iload 4, 2) := by decide +kernel
theorem d3_31 : decode prog_20_method_8_code 31 = .ok (.if_icmp .lt 14, 3) := by decide +kernel
theorem d3_34 : decode prog_20_method_8_code 34 = .ok (.aload 6, 2) := by decide +kernel
theorem d3_36 : decode prog_20_method_8_code 36 = .ok (.iload 9, 2) := by decide +kernel
theorem d3_38 : decode prog_20_method_8_code 38 = .ok (.iconst 1, 1) := by decide +kernel
theorem d3_39 : decode prog_20_method_8_code 39 = .ok (.isub, 1) := by decide +kernel
theorem d3_40 : decode prog_20_method_8_code 40 = .ok (.dload_n 1, 1) := by decide +kernel
theorem d3_41 : decode prog_20_method_8_code 41 = .ok (.dload 7, 2) := by decide +kernel
theorem d3_43 : decode prog_20_method_8_code 43 = .ok (.dsub, 1) := by decide +kernel
theorem d3_44 : decode prog_20_method_8_code 44 = .ok (.dastore, 1) := by decide +kernel
theorem d3_45 : decode prog_20_method_8_code 45 = .ok (.iinc 9 1, 3) := by decide +kernel
theorem d3_48 : decode prog_20_method_8_code 48 = .ok (.goto (-42), 3) := by decide +kernel
set_option maxRecDepth 65536 in
set_option maxHeartbeats 40000000 in
theorem turn3s {p : Program} {l : Launch} {e : Env} {R : Room} {s : State} {m : MethodId} {args : Array Value} {below : List Frame} {meth : Method} {c : Code} {T0 : State} {locs : List Loc} {cells slots : Nat} {Z : State} {a0 : Array Value} {h0 : Heap} {n0 : Nat} (N0 : Fr n0 locs) (o0 : Addr) (v1 : UInt64) (s3 : Slot) (i4 : Int32) (i5 : Int32) (o6 : Addr) (v7 : UInt64) (i9 : Int32) (w7 : Addr) (w9 : UInt64) (cl_w7 : Cell) (r24 : UInt64) (r43 : UInt64) (cl_o6 : Cell)
    (X0 : Stand p l e R s m args below meth c T0 locs cells slots) (hx : p.tables.exec = Jvm.exec) (hZ : Z.Warmed39 s.vm) (hw : ∀ d ∈ tables_1, d.before a0 Z = true) (hby : c.code = prog_20_method_8_code) (hml : c.maxLocals = 10) (hown : s.vm.findClass "com/example/cycle_by_chance/cyclebychance/model/DemandToDate" = some m.cls) (e0 : T0.heap = h0) (F_demand_o0 : Fld Z h0 o0 "com/example/cycle_by_chance/cyclebychance/model/DemandToDate" "demand" "[D" (.ref w7)) (Ar_w7 : Arr Z h0 w7 cl_w7 .double) (hin23 : ¬ ((i9 - (1 : Int32)) < 0 ∨ cl_w7.slots.size ≤ ((i9 - (1 : Int32))).toNatClampNeg)) (hat23 : cl_w7.slots[((i9 - (1 : Int32))).toNatClampNeg]? = some (.double w9)) (Ar_o6 : Arr Z h0 o6 cl_o6 .double) (hin44 : ¬ ((i9 - (1 : Int32)) < 0 ∨ cl_o6.slots.size ≤ ((i9 - (1 : Int32))).toNatClampNeg)) (g_o6 : n0 ≤ o6) (hc10 : ¬ (i5 < i9)) (hv24 : (FP.dadd v7 w9) = r24) (hn24 : Jvm.Free.Fl.NoNaN64 (FP.dadd v7 w9)) (hc31 : ¬ (i9 < i4)) (hv43 : (FP.dsub v1 r24) = r43) (hn43 : Jvm.Free.Fl.NoNaN64 (FP.dsub v1 r24)) :
    ∃ (T' : State) (h' : Heap) (locs' : List Loc), Stand p l e R s m args below meth c T' locs' cells slots ∧ T'.heap = h' ∧ (Fr n0 locs' ∧ Keep h0 h' [o6] ∧ Arr Z h' o6 (cl_o6.setSlot (i9 - (1 : Int32)).toNatClampNeg (.double r43)) .double) ∧
      ∀ target, Steps p.tables e below (T'.setTop (mkF m 6 #[.val (.ref o0), .val (.double v1), .second, s3, .val (.int i4), .val (.int i5), .val (.ref o6), .val (.double r24), .second, .val (.int (i9 + (1 : Int32)))] [])) target → Steps p.tables e below (T0.setTop (mkF m 6 #[.val (.ref o0), .val (.double v1), .second, s3, .val (.int i4), .val (.int i5), .val (.ref o6), .val (.double v7), .second, .val (.int i9)] [])) target := by
  obtain ⟨T8, X8, e8, st8⟩ := getF X0 hx hZ hown (host := "") (Or.inl (hw _ (List.mem_of_getElem? (i := 10) rfl))) Via.refl e0 F_demand_o0 (g := (mkF m 16 #[.val (.ref o0), .val (.double v1), .second, s3, .val (.int i4), .val (.int i5), .val (.ref o6), .val (.double v7), .second, .val (.int i9)] [(.ref o0), (.double v7)])) rfl rfl (hb hby d3_16)
  obtain ⟨T10, h10, X10, e10, W10, st10⟩ := stD X8 hx hZ e8 Ar_o6 (j := (i9 - (1 : Int32))) hin44 (g := (mkF m 44 #[.val (.ref o0), .val (.double v1), .second, s3, .val (.int i4), .val (.int i5), .val (.ref o6), .val (.double r24), .second, .val (.int i9)] [(.double r43), (.int (i9 - (1 : Int32))), (.ref o6)])) rfl rfl (hb hby d3_44)
  have N10 := Fr.snoc X10 N0 g_o6
  have K10 : Keep h0 h10 [o6] := (Keep.refl h0 [o6]).wr W10 (Or.inl (List.mem_of_getElem? (i := 0) rfl))
  refine ⟨T10, _, _, X10, e10, ⟨N10, K10, Ar_o6.same W10⟩, fun target kt => ?_⟩
  show Steps p.tables e below (T0.setTop (mkF m 6 #[.val (.ref o0), .val (.double v1), .second, s3, .val (.int i4), .val (.int i5), .val (.ref o6), .val (.double v7), .second, .val (.int i9)] [])) _
  refine XS.iload X0.here hx rfl (hb hby d3_6) rfl ?_
  show Steps p.tables e below (T0.setTop (mkF m 8 #[.val (.ref o0), .val (.double v1), .second, s3, .val (.int i4), .val (.int i5), .val (.ref o6), .val (.double v7), .second, .val (.int i9)] [(.int i9)])) _
  refine XS.iload X0.here hx rfl (hb hby d3_8) rfl ?_
  show Steps p.tables e below (T0.setTop (mkF m 10 #[.val (.ref o0), .val (.double v1), .second, s3, .val (.int i4), .val (.int i5), .val (.ref o6), .val (.double v7), .second, .val (.int i9)] [(.int i5), (.int i9)])) _
  refine XS.icmpNo X0.here hx rfl (hb hby d3_10) rfl (flt hc10).2.2.1 ?_
  show Steps p.tables e below (T0.setTop (mkF m 13 #[.val (.ref o0), .val (.double v1), .second, s3, .val (.int i4), .val (.int i5), .val (.ref o6), .val (.double v7), .second, .val (.int i9)] [])) _
  refine XS.dload X0.here hx rfl (hb hby d3_13) rfl ?_
  show Steps p.tables e below (T0.setTop (mkF m 15 #[.val (.ref o0), .val (.double v1), .second, s3, .val (.int i4), .val (.int i5), .val (.ref o6), .val (.double v7), .second, .val (.int i9)] [(.double v7)])) _
  refine XS.aloadN X0.here hx rfl (hb hby d3_15) rfl rfl ?_
  show Steps p.tables e below (T0.setTop (mkF m 16 #[.val (.ref o0), .val (.double v1), .second, s3, .val (.int i4), .val (.int i5), .val (.ref o6), .val (.double v7), .second, .val (.int i9)] [(.ref o0), (.double v7)])) _
  refine st8 _ ?_
  show Steps p.tables e below (T8.setTop (mkF m 19 #[.val (.ref o0), .val (.double v1), .second, s3, .val (.int i4), .val (.int i5), .val (.ref o6), .val (.double v7), .second, .val (.int i9)] [(.ref w7), (.double v7)])) _
  refine XS.iload X8.here hx rfl (hb hby d3_19) rfl ?_
  show Steps p.tables e below (T8.setTop (mkF m 21 #[.val (.ref o0), .val (.double v1), .second, s3, .val (.int i4), .val (.int i5), .val (.ref o6), .val (.double v7), .second, .val (.int i9)] [(.int i9), (.ref w7), (.double v7)])) _
  refine XS.iconst X8.here hx rfl (hb hby d3_21) ?_
  show Steps p.tables e below (T8.setTop (mkF m 22 #[.val (.ref o0), .val (.double v1), .second, s3, .val (.int i4), .val (.int i5), .val (.ref o6), .val (.double v7), .second, .val (.int i9)] [(.int (1 : Int32)), (.int i9), (.ref w7), (.double v7)])) _
  refine XS.isub X8.here hx rfl (hb hby d3_22) rfl ?_
  show Steps p.tables e below (T8.setTop (mkF m 23 #[.val (.ref o0), .val (.double v1), .second, s3, .val (.int i4), .val (.int i5), .val (.ref o6), .val (.double v7), .second, .val (.int i9)] [(.int (i9 - (1 : Int32))), (.ref w7), (.double v7)])) _
  refine X8.daload hx (j := (i9 - (1 : Int32))) (v := (.double w9)) (by rw [e8]; exact Ar_w7.1) (State.isArrayOf_alike hZ.alike Ar_w7.2.1) Ar_w7.2.2 hin23 hat23 (g := (mkF m 23 #[.val (.ref o0), .val (.double v1), .second, s3, .val (.int i4), .val (.int i5), .val (.ref o6), .val (.double v7), .second, .val (.int i9)] [(.int (i9 - (1 : Int32))), (.ref w7), (.double v7)])) rfl rfl (hb hby d3_23) _ ?_
  show Steps p.tables e below (T8.setTop (mkF m 24 #[.val (.ref o0), .val (.double v1), .second, s3, .val (.int i4), .val (.int i5), .val (.ref o6), .val (.double v7), .second, .val (.int i9)] [(.double w9), (.double v7)])) _
  refine XS.daddS X8.here hx rfl (hb hby d3_24) rfl hn24 hv24 ?_
  show Steps p.tables e below (T8.setTop (mkF m 25 #[.val (.ref o0), .val (.double v1), .second, s3, .val (.int i4), .val (.int i5), .val (.ref o6), .val (.double v7), .second, .val (.int i9)] [(.double r24)])) _
  refine XS.dstore X8.here hx rfl (hb hby d3_25) rfl (l' := #[.val (.ref o0), .val (.double v1), .second, s3, .val (.int i4), .val (.int i5), .val (.ref o6), .val (.double r24), .second, .val (.int i9)]) rfl ?_
  show Steps p.tables e below (T8.setTop (mkF m 27 #[.val (.ref o0), .val (.double v1), .second, s3, .val (.int i4), .val (.int i5), .val (.ref o6), .val (.double r24), .second, .val (.int i9)] [])) _
  refine XS.iload X8.here hx rfl (hb hby d3_27) rfl ?_
  show Steps p.tables e below (T8.setTop (mkF m 29 #[.val (.ref o0), .val (.double v1), .second, s3, .val (.int i4), .val (.int i5), .val (.ref o6), .val (.double r24), .second, .val (.int i9)] [(.int i9)])) _
  refine XS.iload X8.here hx rfl (hb hby d3_29) rfl ?_
  show Steps p.tables e below (T8.setTop (mkF m 31 #[.val (.ref o0), .val (.double v1), .second, s3, .val (.int i4), .val (.int i5), .val (.ref o6), .val (.double r24), .second, .val (.int i9)] [(.int i4), (.int i9)])) _
  refine XS.icmpNo X8.here hx rfl (hb hby d3_31) rfl (flt hc31).1 ?_
  show Steps p.tables e below (T8.setTop (mkF m 34 #[.val (.ref o0), .val (.double v1), .second, s3, .val (.int i4), .val (.int i5), .val (.ref o6), .val (.double r24), .second, .val (.int i9)] [])) _
  refine XS.aload X8.here hx rfl (hb hby d3_34) rfl rfl ?_
  show Steps p.tables e below (T8.setTop (mkF m 36 #[.val (.ref o0), .val (.double v1), .second, s3, .val (.int i4), .val (.int i5), .val (.ref o6), .val (.double r24), .second, .val (.int i9)] [(.ref o6)])) _
  refine XS.iload X8.here hx rfl (hb hby d3_36) rfl ?_
  show Steps p.tables e below (T8.setTop (mkF m 38 #[.val (.ref o0), .val (.double v1), .second, s3, .val (.int i4), .val (.int i5), .val (.ref o6), .val (.double r24), .second, .val (.int i9)] [(.int i9), (.ref o6)])) _
  refine XS.iconst X8.here hx rfl (hb hby d3_38) ?_
  show Steps p.tables e below (T8.setTop (mkF m 39 #[.val (.ref o0), .val (.double v1), .second, s3, .val (.int i4), .val (.int i5), .val (.ref o6), .val (.double r24), .second, .val (.int i9)] [(.int (1 : Int32)), (.int i9), (.ref o6)])) _
  refine XS.isub X8.here hx rfl (hb hby d3_39) rfl ?_
  show Steps p.tables e below (T8.setTop (mkF m 40 #[.val (.ref o0), .val (.double v1), .second, s3, .val (.int i4), .val (.int i5), .val (.ref o6), .val (.double r24), .second, .val (.int i9)] [(.int (i9 - (1 : Int32))), (.ref o6)])) _
  refine XS.dloadN X8.here hx rfl (hb hby d3_40) rfl ?_
  show Steps p.tables e below (T8.setTop (mkF m 41 #[.val (.ref o0), .val (.double v1), .second, s3, .val (.int i4), .val (.int i5), .val (.ref o6), .val (.double r24), .second, .val (.int i9)] [(.double v1), (.int (i9 - (1 : Int32))), (.ref o6)])) _
  refine XS.dload X8.here hx rfl (hb hby d3_41) rfl ?_
  show Steps p.tables e below (T8.setTop (mkF m 43 #[.val (.ref o0), .val (.double v1), .second, s3, .val (.int i4), .val (.int i5), .val (.ref o6), .val (.double r24), .second, .val (.int i9)] [(.double r24), (.double v1), (.int (i9 - (1 : Int32))), (.ref o6)])) _
  refine XS.dsubS X8.here hx rfl (hb hby d3_43) rfl hn43 hv43 ?_
  show Steps p.tables e below (T8.setTop (mkF m 44 #[.val (.ref o0), .val (.double v1), .second, s3, .val (.int i4), .val (.int i5), .val (.ref o6), .val (.double r24), .second, .val (.int i9)] [(.double r43), (.int (i9 - (1 : Int32))), (.ref o6)])) _
  refine st10 _ ?_
  show Steps p.tables e below (T10.setTop (mkF m 45 #[.val (.ref o0), .val (.double v1), .second, s3, .val (.int i4), .val (.int i5), .val (.ref o6), .val (.double r24), .second, .val (.int i9)] [])) _
  refine XS.iinc X10.here hx rfl (hb hby d3_45) rfl (l' := #[.val (.ref o0), .val (.double v1), .second, s3, .val (.int i4), .val (.int i5), .val (.ref o6), .val (.double r24), .second, .val (.int (i9 + (1 : Int32)))]) rfl ?_
  show Steps p.tables e below (T10.setTop (mkF m 48 #[.val (.ref o0), .val (.double v1), .second, s3, .val (.int i4), .val (.int i5), .val (.ref o6), .val (.double r24), .second, .val (.int (i9 + (1 : Int32)))] [])) _
  refine XS.goto X10.here hx rfl (pc0 := 48) (pc' := 6) rfl (hb hby d3_48) (by decide) (by decide) ?_
  exact kt
set_option maxRecDepth 65536 in
set_option maxHeartbeats 40000000 in
theorem turn3n {p : Program} {l : Launch} {e : Env} {R : Room} {s : State} {m : MethodId} {args : Array Value} {below : List Frame} {meth : Method} {c : Code} {T0 : State} {locs : List Loc} {cells slots : Nat} {Z : State} {a0 : Array Value} {h0 : Heap} (o0 : Addr) (s1 : Slot) (s2 : Slot) (s3 : Slot) (i4 : Int32) (i5 : Int32) (s6 : Slot) (v7 : UInt64) (i9 : Int32) (w7 : Addr) (w9 : UInt64) (cl_w7 : Cell) (r24 : UInt64)
    (X0 : Stand p l e R s m args below meth c T0 locs cells slots) (hx : p.tables.exec = Jvm.exec) (hZ : Z.Warmed39 s.vm) (hw : ∀ d ∈ tables_1, d.before a0 Z = true) (hby : c.code = prog_20_method_8_code) (hml : c.maxLocals = 10) (hown : s.vm.findClass "com/example/cycle_by_chance/cyclebychance/model/DemandToDate" = some m.cls) (e0 : T0.heap = h0) (F_demand_o0 : Fld Z h0 o0 "com/example/cycle_by_chance/cyclebychance/model/DemandToDate" "demand" "[D" (.ref w7)) (Ar_w7 : Arr Z h0 w7 cl_w7 .double) (hin23 : ¬ ((i9 - (1 : Int32)) < 0 ∨ cl_w7.slots.size ≤ ((i9 - (1 : Int32))).toNatClampNeg)) (hat23 : cl_w7.slots[((i9 - (1 : Int32))).toNatClampNeg]? = some (.double w9)) (hc10 : ¬ (i5 < i9)) (hv24 : (FP.dadd v7 w9) = r24) (hn24 : Jvm.Free.Fl.NoNaN64 (FP.dadd v7 w9)) (hc31 : i9 < i4) :
    ∃ (T' : State), Stand p l e R s m args below meth c T' locs cells slots ∧ T'.heap = h0 ∧
      ∀ target, Steps p.tables e below (T'.setTop (mkF m 6 #[.val (.ref o0), s1, s2, s3, .val (.int i4), .val (.int i5), s6, .val (.double r24), .second, .val (.int (i9 + (1 : Int32)))] [])) target → Steps p.tables e below (T0.setTop (mkF m 6 #[.val (.ref o0), s1, s2, s3, .val (.int i4), .val (.int i5), s6, .val (.double v7), .second, .val (.int i9)] [])) target := by
  obtain ⟨T8, X8, e8, st8⟩ := getF X0 hx hZ hown (host := "") (Or.inl (hw _ (List.mem_of_getElem? (i := 10) rfl))) Via.refl e0 F_demand_o0 (g := (mkF m 16 #[.val (.ref o0), s1, s2, s3, .val (.int i4), .val (.int i5), s6, .val (.double v7), .second, .val (.int i9)] [(.ref o0), (.double v7)])) rfl rfl (hb hby d3_16)
  refine ⟨T8, X8, e8, fun target kt => ?_⟩
  show Steps p.tables e below (T0.setTop (mkF m 6 #[.val (.ref o0), s1, s2, s3, .val (.int i4), .val (.int i5), s6, .val (.double v7), .second, .val (.int i9)] [])) _
  refine XS.iload X0.here hx rfl (hb hby d3_6) rfl ?_
  show Steps p.tables e below (T0.setTop (mkF m 8 #[.val (.ref o0), s1, s2, s3, .val (.int i4), .val (.int i5), s6, .val (.double v7), .second, .val (.int i9)] [(.int i9)])) _
  refine XS.iload X0.here hx rfl (hb hby d3_8) rfl ?_
  show Steps p.tables e below (T0.setTop (mkF m 10 #[.val (.ref o0), s1, s2, s3, .val (.int i4), .val (.int i5), s6, .val (.double v7), .second, .val (.int i9)] [(.int i5), (.int i9)])) _
  refine XS.icmpNo X0.here hx rfl (hb hby d3_10) rfl (flt hc10).2.2.1 ?_
  show Steps p.tables e below (T0.setTop (mkF m 13 #[.val (.ref o0), s1, s2, s3, .val (.int i4), .val (.int i5), s6, .val (.double v7), .second, .val (.int i9)] [])) _
  refine XS.dload X0.here hx rfl (hb hby d3_13) rfl ?_
  show Steps p.tables e below (T0.setTop (mkF m 15 #[.val (.ref o0), s1, s2, s3, .val (.int i4), .val (.int i5), s6, .val (.double v7), .second, .val (.int i9)] [(.double v7)])) _
  refine XS.aloadN X0.here hx rfl (hb hby d3_15) rfl rfl ?_
  show Steps p.tables e below (T0.setTop (mkF m 16 #[.val (.ref o0), s1, s2, s3, .val (.int i4), .val (.int i5), s6, .val (.double v7), .second, .val (.int i9)] [(.ref o0), (.double v7)])) _
  refine st8 _ ?_
  show Steps p.tables e below (T8.setTop (mkF m 19 #[.val (.ref o0), s1, s2, s3, .val (.int i4), .val (.int i5), s6, .val (.double v7), .second, .val (.int i9)] [(.ref w7), (.double v7)])) _
  refine XS.iload X8.here hx rfl (hb hby d3_19) rfl ?_
  show Steps p.tables e below (T8.setTop (mkF m 21 #[.val (.ref o0), s1, s2, s3, .val (.int i4), .val (.int i5), s6, .val (.double v7), .second, .val (.int i9)] [(.int i9), (.ref w7), (.double v7)])) _
  refine XS.iconst X8.here hx rfl (hb hby d3_21) ?_
  show Steps p.tables e below (T8.setTop (mkF m 22 #[.val (.ref o0), s1, s2, s3, .val (.int i4), .val (.int i5), s6, .val (.double v7), .second, .val (.int i9)] [(.int (1 : Int32)), (.int i9), (.ref w7), (.double v7)])) _
  refine XS.isub X8.here hx rfl (hb hby d3_22) rfl ?_
  show Steps p.tables e below (T8.setTop (mkF m 23 #[.val (.ref o0), s1, s2, s3, .val (.int i4), .val (.int i5), s6, .val (.double v7), .second, .val (.int i9)] [(.int (i9 - (1 : Int32))), (.ref w7), (.double v7)])) _
  refine X8.daload hx (j := (i9 - (1 : Int32))) (v := (.double w9)) (by rw [e8]; exact Ar_w7.1) (State.isArrayOf_alike hZ.alike Ar_w7.2.1) Ar_w7.2.2 hin23 hat23 (g := (mkF m 23 #[.val (.ref o0), s1, s2, s3, .val (.int i4), .val (.int i5), s6, .val (.double v7), .second, .val (.int i9)] [(.int (i9 - (1 : Int32))), (.ref w7), (.double v7)])) rfl rfl (hb hby d3_23) _ ?_
  show Steps p.tables e below (T8.setTop (mkF m 24 #[.val (.ref o0), s1, s2, s3, .val (.int i4), .val (.int i5), s6, .val (.double v7), .second, .val (.int i9)] [(.double w9), (.double v7)])) _
  refine XS.daddS X8.here hx rfl (hb hby d3_24) rfl hn24 hv24 ?_
  show Steps p.tables e below (T8.setTop (mkF m 25 #[.val (.ref o0), s1, s2, s3, .val (.int i4), .val (.int i5), s6, .val (.double v7), .second, .val (.int i9)] [(.double r24)])) _
  refine XS.dstore X8.here hx rfl (hb hby d3_25) rfl (l' := #[.val (.ref o0), s1, s2, s3, .val (.int i4), .val (.int i5), s6, .val (.double r24), .second, .val (.int i9)]) rfl ?_
  show Steps p.tables e below (T8.setTop (mkF m 27 #[.val (.ref o0), s1, s2, s3, .val (.int i4), .val (.int i5), s6, .val (.double r24), .second, .val (.int i9)] [])) _
  refine XS.iload X8.here hx rfl (hb hby d3_27) rfl ?_
  show Steps p.tables e below (T8.setTop (mkF m 29 #[.val (.ref o0), s1, s2, s3, .val (.int i4), .val (.int i5), s6, .val (.double r24), .second, .val (.int i9)] [(.int i9)])) _
  refine XS.iload X8.here hx rfl (hb hby d3_29) rfl ?_
  show Steps p.tables e below (T8.setTop (mkF m 31 #[.val (.ref o0), s1, s2, s3, .val (.int i4), .val (.int i5), s6, .val (.double r24), .second, .val (.int i9)] [(.int i4), (.int i9)])) _
  refine XS.icmpYes X8.here hx rfl (pc0 := 31) (pc' := 45) rfl (hb hby d3_31) rfl (tlt hc31).1 (by decide) (by decide) ?_
  show Steps p.tables e below (T8.setTop (mkF m 45 #[.val (.ref o0), s1, s2, s3, .val (.int i4), .val (.int i5), s6, .val (.double r24), .second, .val (.int i9)] [])) _
  refine XS.iinc X8.here hx rfl (hb hby d3_45) rfl (l' := #[.val (.ref o0), s1, s2, s3, .val (.int i4), .val (.int i5), s6, .val (.double r24), .second, .val (.int (i9 + (1 : Int32)))]) rfl ?_
  show Steps p.tables e below (T8.setTop (mkF m 48 #[.val (.ref o0), s1, s2, s3, .val (.int i4), .val (.int i5), s6, .val (.double r24), .second, .val (.int (i9 + (1 : Int32)))] [])) _
  refine XS.goto X8.here hx rfl (pc0 := 48) (pc' := 6) rfl (hb hby d3_48) (by decide) (by decide) ?_
  exact kt
set_option maxRecDepth 65536 in
set_option maxHeartbeats 40000000 in
theorem exit3 {p : Program} {l : Launch} {e : Env} {R : Room} {s : State} {m : MethodId} {args : Array Value} {below : List Frame} {meth : Method} {c : Code} {T0 : State} {locs : List Loc} {cells slots : Nat} {Z : State} {a0 : Array Value} {h0 : Heap} (s0 : Slot) (s1 : Slot) (s2 : Slot) (s3 : Slot) (s4 : Slot) (i5 : Int32) (s6 : Slot) (s7 : Slot) (s8 : Slot) (i9 : Int32)
    (X0 : Stand p l e R s m args below meth c T0 locs cells slots) (hx : p.tables.exec = Jvm.exec) (hZ : Z.Warmed39 s.vm) (hw : ∀ d ∈ tables_1, d.before a0 Z = true) (hby : c.code = prog_20_method_8_code) (hml : c.maxLocals = 10) (hown : s.vm.findClass "com/example/cycle_by_chance/cyclebychance/model/DemandToDate" = some m.cls) (e0 : T0.heap = h0) (hc10 : i5 < i9) :
    ∃ (T' : State), Stand p l e R s m args below meth c T' locs cells slots ∧ T'.heap = h0 ∧
      ∀ target, Steps p.tables e below (T'.setTop (mkF m 51 #[s0, s1, s2, s3, s4, .val (.int i5), s6, s7, s8, .val (.int i9)] [])) target → Steps p.tables e below (T0.setTop (mkF m 6 #[s0, s1, s2, s3, s4, .val (.int i5), s6, s7, s8, .val (.int i9)] [])) target := by

  refine ⟨T0, X0, e0, fun target kt => ?_⟩
  show Steps p.tables e below (T0.setTop (mkF m 6 #[s0, s1, s2, s3, s4, .val (.int i5), s6, s7, s8, .val (.int i9)] [])) _
  refine XS.iload X0.here hx rfl (hb hby d3_6) rfl ?_
  show Steps p.tables e below (T0.setTop (mkF m 8 #[s0, s1, s2, s3, s4, .val (.int i5), s6, s7, s8, .val (.int i9)] [(.int i9)])) _
  refine XS.iload X0.here hx rfl (hb hby d3_8) rfl ?_
  show Steps p.tables e below (T0.setTop (mkF m 10 #[s0, s1, s2, s3, s4, .val (.int i5), s6, s7, s8, .val (.int i9)] [(.int i5), (.int i9)])) _
  refine XS.icmpYes X0.here hx rfl (pc0 := 10) (pc' := 51) rfl (hb hby d3_10) rfl (tlt hc10).2.2.1 (by decide) (by decide) ?_
  exact kt
def CL (c : Cell) (f : Nat → UInt64) : Prop := c.slots.size = 4 ∧ ∀ j, j < 4 → c.slots[j]? = some (.double (f j))
theorem CL.set {c : Cell} {f g : Nat → UInt64} {i : Nat} {v : UInt64} (h : CL c f) (hi : i < 4) (h1 : g i = v) (h2 : ∀ j, j < 4 → j ≠ i → g j = f j) : CL (c.setSlot i (.double v)) g := by
  refine ⟨by rw [sz_set]; exact h.1, fun j hj => ?_⟩
  by_cases q : j = i
  · subst q
    rw [h1]; exact own_set_at (by rw [h.1]; exact hj)
  · rw [own_set_ne q, h2 j hj q]; exact h.2 j hj
theorem CL.congr {c : Cell} {f g : Nat → UInt64} (h : CL c f) (h2 : ∀ j, j < 4 → g j = f j) : CL c g := ⟨h.1, fun j hj => by rw [h2 j hj]; exact h.2 j hj⟩
def GG (P : Nat → Int64) (lev : Int64) (fr first : Nat) (sent : Nat → UInt64) (t j : Nat) : UInt64 := if first ≤ j + 1 ∧ j + 1 < t then FP.l2d (lev - (P (j + 1) - P (fr - 1))) else sent j
theorem own_t {t : Nat} (h1 : 1 ≤ t) (h2 : t ≤ 4) : (Int32.ofNat t - (1 : Int32)).toNatClampNeg = t - 1 ∧ ¬ (Int32.ofNat t - (1 : Int32)) < 0 ∧ Int32.ofNat t + (1 : Int32) = Int32.ofNat (t + 1) := by
  have h : t = 1 ∨ t = 2 ∨ t = 3 ∨ t = 4 := by omega
  rcases h with rfl | rfl | rfl | rfl <;> decide
theorem own_nI {a : Nat} (ha : a ≤ 8) : (Int32.ofNat a).toInt = (a : Int) := Int32.toInt_ofNat_of_lt (by omega)
theorem own_ltN {a b : Nat} (ha : a ≤ 8) (hb : b ≤ 8) : Int32.ofNat a < Int32.ofNat b ↔ a < b := by
  rw [Int32.lt_iff_toInt_lt, own_nI ha, own_nI hb]; omega
theorem own_sh (a c x : Int64) : (a - c) + x = (a + x) - c := by
  rw [Int64.sub_eq_add_neg, Int64.sub_eq_add_neg, Int64.add_assoc, Int64.add_comm (-c) x, ← Int64.add_assoc]
set_option maxRecDepth 65536 in
set_option maxHeartbeats 40000000 in
theorem loop3 {p : Program} {l : Launch} {e : Env} {R : Room} {s : State} {m : MethodId} {args : Array Value} {below : List Frame} {meth : Method} {c : Code} {cells slots : Nat} {Z : State} {a0 : Array Value} {n0 : Nat} (o0 o6 w7 : Addr) (s3 : Slot) (lev : Int64) (fr first last : Nat) (x P : Nat → Int64) (sent : Nat → UInt64) (cl_w7 : Cell)
    (hx : p.tables.exec = Jvm.exec) (hZ : Z.Warmed39 s.vm) (hw : ∀ d ∈ tables_1, d.before a0 Z = true) (hby : c.code = prog_20_method_8_code) (hml : c.maxLocals = 10) (hown : s.vm.findClass "com/example/cycle_by_chance/cyclebychance/model/DemandToDate" = some m.cls)
    (D : D4 cl_w7 x) (hP : ∀ t, 1 ≤ t → t ≤ 4 → P t = P (t - 1) + x (t - 1)) (hB : ∀ a b, a ≤ 4 → b ≤ 4 → B53 (P a - P b)) (hxB : ∀ j, B53 (x j)) (hL : B53 lev)
    (f1 : 1 ≤ fr) (f2 : fr ≤ 4) (ff : fr ≤ first) (f5 : first ≤ 5) (l4 : last ≤ 4) (g6 : n0 ≤ o6) (n06 : o0 ≠ o6) (n76 : w7 ≠ o6) (kk : Nat) :
    ∀ (t : Nat) {T0 : State} {locs : List Loc} {h0 : Heap} {cl6 : Cell}, t + kk = last + 1 → fr ≤ t → Stand p l e R s m args below meth c T0 locs cells slots → T0.heap = h0 → Fr n0 locs → Fld Z h0 o0 "com/example/cycle_by_chance/cyclebychance/model/DemandToDate" "demand" "[D" (.ref w7) → Arr Z h0 w7 cl_w7 .double → Arr Z h0 o6 cl6 .double → CL cl6 (GG P lev fr first sent t) →
    ∃ (T' : State) (h' : Heap) (locs' : List Loc) (cl' : Cell), Stand p l e R s m args below meth c T' locs' cells slots ∧ T'.heap = h' ∧ Fr n0 locs' ∧ Keep h0 h' [o6] ∧ Arr Z h' o6 cl' .double ∧ CL cl' (GG P lev fr first sent (last + 1)) ∧
      ∀ target, Steps p.tables e below (T'.setTop (mkF m 6 #[.val (.ref o0), .val (.double (FP.l2d lev)), .second, s3, .val (.int (Int32.ofNat first)), .val (.int (Int32.ofNat last)), .val (.ref o6), .val (.double (FP.l2d (P last - P (fr - 1)))), .second, .val (.int (Int32.ofNat (last + 1)))] [])) target → Steps p.tables e below (T0.setTop (mkF m 6 #[.val (.ref o0), .val (.double (FP.l2d lev)), .second, s3, .val (.int (Int32.ofNat first)), .val (.int (Int32.ofNat last)), .val (.ref o6), .val (.double (FP.l2d (P (t - 1) - P (fr - 1)))), .second, .val (.int (Int32.ofNat t))] [])) target := by
  induction kk with
  | zero =>
    intro t T0 locs h0 cl6 ht ft X0 e0 N0 F A7 A6 I
    have : t = last + 1 := by omega
    subst this
    exact ⟨T0, h0, locs, cl6, X0, e0, N0, Keep.refl _ _, A6, I, fun _ q => q⟩
  | succ kk ih =>
    intro t T0 locs h0 cl6 ht ft X0 e0 N0 F A7 A6 I
    obtain ⟨i1, i2, i3⟩ := own_t (t := t) (by omega) (by omega)
    have in7 : ¬ ((Int32.ofNat t - (1 : Int32)) < 0 ∨ cl_w7.slots.size ≤ ((Int32.ofNat t - (1 : Int32))).toNatClampNeg) := fun q => q.elim i2 (fun q => by rw [D.1, i1] at q; omega)
    have at7 : cl_w7.slots[((Int32.ofNat t - (1 : Int32))).toNatClampNeg]? = some (.double (FP.l2d (x (t - 1)))) := by rw [i1]; exact D.2 _ (by omega)
    have v1 : FP.dadd (FP.l2d (P (t - 1) - P (fr - 1))) (FP.l2d (x (t - 1))) = FP.l2d (P t - P (fr - 1)) := by
      rw [dadd_w (hB _ _ (by omega) (by omega)) (hxB _), own_sh, ← hP t (by omega) (by omega)]
    have c10 : ¬ (Int32.ofNat last < Int32.ofNat t) := fun q => by have := (own_ltN (by omega) (by omega)).mp q; omega
    have e9 : (t + 1) - 1 = t := by omega
    by_cases h : first ≤ t
    · have in6 : ¬ ((Int32.ofNat t - (1 : Int32)) < 0 ∨ cl6.slots.size ≤ ((Int32.ofNat t - (1 : Int32))).toNatClampNeg) := fun q => q.elim i2 (fun q => by rw [I.1, i1] at q; omega)
      have v2 := dsub_w hL (hB t (fr - 1) (by omega) (by omega))
      obtain ⟨T1, h1, locs1, X1, e1, ⟨N1, K1, B6⟩, st⟩ := turn3s (a0 := a0) N0 o0 (FP.l2d lev) s3 (Int32.ofNat first) (Int32.ofNat last) o6 _ (Int32.ofNat t) w7 _ cl_w7 _ _ cl6 X0 hx hZ hw hby hml hown e0 F A7 in7 at7 A6 in6 g6 c10 v1 (nn_w v1) (fun q => by have := (own_ltN (by omega) (by omega)).mp q; omega) v2 (nn_w v2)
      rw [i1] at B6
      obtain ⟨T2, h2, locs2, cl2, X2, e2, N2, K2, B2, I2, st2⟩ := ih (t + 1) (by omega) (by omega) X1 e1 N1 (F.keep K1 (fun q => n06 (List.mem_singleton.mp q))) (own_arrkeep A7 K1 (fun q => n76 (List.mem_singleton.mp q))) B6 (I.set (by omega) (by unfold GG; rw [if_pos ⟨by omega, by omega⟩, show t - 1 + 1 = t by omega]) (fun j hj hne => by
        unfold GG
        by_cases q : first ≤ j + 1 ∧ j + 1 < t
        · rw [if_pos q, if_pos ⟨q.1, by omega⟩]
        · rw [if_neg q, if_neg (fun z => q ⟨z.1, by omega⟩)]))
      rw [e9] at st2
      rw [i3] at st
      exact ⟨T2, h2, locs2, cl2, X2, e2, N2, K1.trans K2 (fun y hy => Or.inl hy), B2, I2, fun target q => st _ (st2 _ q)⟩
    · obtain ⟨T1, X1, e1, st⟩ := turn3n (a0 := a0) o0 (.val (.double (FP.l2d lev))) .second s3 (Int32.ofNat first) (Int32.ofNat last) (.val (.ref o6)) _ (Int32.ofNat t) w7 _ cl_w7 _ X0 hx hZ hw hby hml hown e0 F A7 in7 at7 c10 v1 (nn_w v1) ((own_ltN (by omega) (by omega)).mpr (by omega))
      obtain ⟨T2, h2, locs2, cl2, X2, e2, N2, K2, B2, I2, st2⟩ := ih (t + 1) (by omega) (by omega) X1 e1 N0 F A7 A6 (I.congr (fun j hj => by
        unfold GG
        by_cases q : first ≤ j + 1 ∧ j + 1 < t
        · rw [if_pos q, if_pos ⟨q.1, by omega⟩]
        · rw [if_neg q, if_neg (fun z => q ⟨z.1, by omega⟩)]))
      rw [e9] at st2
      rw [i3] at st
      exact ⟨T2, h2, locs2, cl2, X2, e2, N2, K2, B2, I2, fun target q => st _ (st2 _ q)⟩
theorem d3_0 : decode prog_20_method_8_code 0 = .ok (.dconst 0, 1) := by decide +kernel
theorem d3_1 : decode prog_20_method_8_code 1 = .ok (.dstore 7, 2) := by decide +kernel
theorem d3_3 : decode prog_20_method_8_code 3 = .ok (.iload_n 3, 1) := by decide +kernel
theorem d3_4 : decode prog_20_method_8_code 4 = .ok (.istore 9, 2) := by decide +kernel
theorem d3_51 : decode prog_20_method_8_code 51 = .ok (.return_, 1) := by decide +kernel
theorem pn_3 : plainName "com/example/cycle_by_chance/cyclebychance/model/DemandToDate" = true := by first | (simp [plainName, overriddenIn]; done) | decide +kernel
theorem ef_3 (m : MethodId) (x0 : Addr) (x1 : UInt64) (x2 : Int32) (x3 : Int32) (x4 : Int32) (x5 : Addr) : entryFrame m #[(.ref x0), (.double x1), (.int x2), (.int x3), (.int x4), (.ref x5)] 10 = mkF m 0 #[.val (.ref x0), .val (.double x1), .second, .val (.int x2), .val (.int x3), .val (.int x4), .val (.ref x5), .unset, .unset, .unset] [] := by first | (simp [entryFrame, mkF, argsToLocals, Value.category]; done) | rfl
def FF (P : Nat → Int64) (lev : Int64) (fr first last : Nat) (sent : Nat → UInt64) (j : Nat) : UInt64 := if first ≤ j + 1 ∧ j + 1 ≤ last then FP.l2d (lev - (P (j + 1) - P (fr - 1))) else sent j
def Q3 (Z : State) (a6 : Addr) (f : Nat → UInt64) (h0 : Heap) (n0 : Nat) (v : Option Value) (h : Heap) (L : List Loc) : Prop := v = none ∧ Fr n0 L ∧ Keep h0 h [a6] ∧ ∃ cl, Arr Z h a6 cl .double ∧ CL cl f
set_option maxRecDepth 65536 in
set_option maxHeartbeats 40000000 in
theorem rm3 (l : Launch) (Z : State) (a0 : Array Value) (hw : ∀ d ∈ tables_1, d.before a0 Z = true) (ws : List Jvm.Cond) (a1 : Addr) (lev : Int64) (fr first last : Nat) (a6 w7 : Addr) (x P : Nat → Int64) (sent : Nat → UInt64) (cl_w7 cl6 : Cell) (h0 : Heap) (n0 : Nat) (Z0 : n0 ≤ h0.size)
    (D : D4 cl_w7 x) (hP : ∀ t, 1 ≤ t → t ≤ 4 → P t = P (t - 1) + x (t - 1)) (hB : ∀ a b, a ≤ 4 → b ≤ 4 → B53 (P a - P b)) (hxB : ∀ j, B53 (x j)) (hL : B53 lev)
    (f1 : 1 ≤ fr) (f2 : fr ≤ 4) (ff : fr ≤ first) (f5 : first ≤ 5) (l4 : last ≤ 4) (g6 : n0 ≤ a6) (n06 : a1 ≠ a6) (n76 : w7 ≠ a6) (F : Fld Z h0 a1 "com/example/cycle_by_chance/cyclebychance/model/DemandToDate" "demand" "[D" (.ref w7)) (A7 : Arr Z h0 w7 cl_w7 .double) (A6 : Arr Z h0 a6 cl6 .double) (I : CL cl6 sent) :
    MetFree l (⟨"com/example/cycle_by_chance/cyclebychance/model/DemandToDate", "drawDown", "(DIII[D)V"⟩ : MethodName) (head1 (Jvm.Cond.code (⟨"com/example/cycle_by_chance/cyclebychance/model/DemandToDate", "drawDown", "(DIII[D)V"⟩ : MethodName) prog_20_method_8_code 10 none :: ws) ({ frames := 0, cells := 0, slots := 0, locals := 0 } : Room)) (fun a U => a = #[(.ref a1), (.double (FP.l2d lev)), (.int (Int32.ofNat fr)), (.int (Int32.ofNat first)), (.int (Int32.ofNat last)), (.ref a6)] ∧ Z.Warmed39 U.vm ∧ U.heap = h0) (fun _ _ _ _ _ => True) (fun _ U o U' => ∃ v L, o = .returned v ∧ Q3 Z a6 (FF P lev fr first last sent) h0 n0 v U'.heap L ∧ FrameEnd U o U' L ({ frames := 0, cells := 0, slots := 0, locals := 0 } : Room).cells ({ frames := 0, cells := 0, slots := 0, locals := 0 } : Room).slots) := by
  refine MetFree.of_bodySF (plainFor_of_name pn_3) hisR ?_
  intro p e s m args below meth c s₁ Bd hml0 hP hK
  obtain ⟨rfl, hZ, hh⟩ := hP
  have hx := Bd.exec
  have hby := Bd.bytes
  have hml : c.maxLocals = 10 := hml0
  have hown : s.vm.findClass "com/example/cycle_by_chance/cyclebychance/model/DemandToDate" = some m.cls := findClass_of_methodNamed Bd.named
  have hnm := (name_of_methodNamed Bd.named Bd.method).1
  have X0 : Stand p l e ({ frames := 0, cells := 0, slots := 0, locals := 0 } : Room) s m #[(.ref a1), (.double (FP.l2d lev)), (.int (Int32.ofNat fr)), (.int (Int32.ofNat first)), (.int (Int32.ofNat last)), (.ref a6)] below meth c s₁ [] 0 0 := Stand.of_body Bd
  have e0 : s₁.heap = h0 := by rw [← hh, Bd.state]; rfl
  have N0 := Fr.nil n0
  have pre0 : ∀ t, Steps p.tables e below (s₁.setTop (mkF m 0 #[.val (.ref a1), .val (.double (FP.l2d lev)), .second, .val (.int (Int32.ofNat fr)), .val (.int (Int32.ofNat first)), .val (.int (Int32.ofNat last)), .val (.ref a6), .unset, .unset, .unset] [])) t → Steps p.tables e below (s₁.setTop (entryFrame m #[(.ref a1), (.double (FP.l2d lev)), (.int (Int32.ofNat fr)), (.int (Int32.ofNat first)), (.int (Int32.ofNat last)), (.ref a6)] 10)) t := fun t k => castTop (ef_3 m a1 (FP.l2d lev) (Int32.ofNat fr) (Int32.ofNat first) (Int32.ofNat last) a6) k
  have hd0 : FP.dconst0 = (FP.l2d (P (fr - 1) - P (fr - 1))) := by rw [Int64.sub_self]; exact l2d_zero.symm
  by_cases hlf : last < fr
  · obtain ⟨T1, X1, e1, st1⟩ := exit3 (a0 := a0) (.val (.ref a1)) (.val (.double (FP.l2d lev))) .second (.val (.int (Int32.ofNat fr))) (.val (.int (Int32.ofNat first))) (Int32.ofNat last) (.val (.ref a6)) (.val (.double (FP.l2d (P (fr - 1) - P (fr - 1))))) .second (Int32.ofNat fr) X0 hx hZ hw hby hml hown e0 ((own_ltN (by omega) (by omega)).mpr hlf)
    obtain ⟨fs, hr, hrun, hended, hW, hsame⟩ := X1.leave (v := none) (fun _ => rfl)
    refine ⟨_, _, pre0 _ ?_, hrun, hended, _, _, rfl, ?_, ⟨_, rfl⟩, hW, hsame.mono (by decide) (by decide)⟩
    · show Steps p.tables e below (s₁.setTop (mkF m 0 #[.val (.ref a1), .val (.double (FP.l2d lev)), .second, .val (.int (Int32.ofNat fr)), .val (.int (Int32.ofNat first)), .val (.int (Int32.ofNat last)), .val (.ref a6), .unset, .unset, .unset] [])) _
      refine XS.dconst0 X0.here hx rfl (hb hby d3_0) hd0 ?_
      show Steps p.tables e below (s₁.setTop (mkF m 1 #[.val (.ref a1), .val (.double (FP.l2d lev)), .second, .val (.int (Int32.ofNat fr)), .val (.int (Int32.ofNat first)), .val (.int (Int32.ofNat last)), .val (.ref a6), .unset, .unset, .unset] [(.double (FP.l2d (P (fr - 1) - P (fr - 1))))])) _
      refine XS.dstore X0.here hx rfl (hb hby d3_1) rfl (l' := #[.val (.ref a1), .val (.double (FP.l2d lev)), .second, .val (.int (Int32.ofNat fr)), .val (.int (Int32.ofNat first)), .val (.int (Int32.ofNat last)), .val (.ref a6), .val (.double (FP.l2d (P (fr - 1) - P (fr - 1)))), .second, .unset]) rfl ?_
      show Steps p.tables e below (s₁.setTop (mkF m 3 #[.val (.ref a1), .val (.double (FP.l2d lev)), .second, .val (.int (Int32.ofNat fr)), .val (.int (Int32.ofNat first)), .val (.int (Int32.ofNat last)), .val (.ref a6), .val (.double (FP.l2d (P (fr - 1) - P (fr - 1)))), .second, .unset] [])) _
      refine XS.iloadN X0.here hx rfl (hb hby d3_3) rfl ?_
      show Steps p.tables e below (s₁.setTop (mkF m 4 #[.val (.ref a1), .val (.double (FP.l2d lev)), .second, .val (.int (Int32.ofNat fr)), .val (.int (Int32.ofNat first)), .val (.int (Int32.ofNat last)), .val (.ref a6), .val (.double (FP.l2d (P (fr - 1) - P (fr - 1)))), .second, .unset] [(.int (Int32.ofNat fr))])) _
      refine XS.istore X0.here hx rfl (hb hby d3_4) rfl (l' := #[.val (.ref a1), .val (.double (FP.l2d lev)), .second, .val (.int (Int32.ofNat fr)), .val (.int (Int32.ofNat first)), .val (.int (Int32.ofNat last)), .val (.ref a6), .val (.double (FP.l2d (P (fr - 1) - P (fr - 1)))), .second, .val (.int (Int32.ofNat fr))]) rfl ?_
      show Steps p.tables e below (s₁.setTop (mkF m 6 #[.val (.ref a1), .val (.double (FP.l2d lev)), .second, .val (.int (Int32.ofNat fr)), .val (.int (Int32.ofNat first)), .val (.int (Int32.ofNat last)), .val (.ref a6), .val (.double (FP.l2d (P (fr - 1) - P (fr - 1)))), .second, .val (.int (Int32.ofNat fr))] [])) _
      refine st1 _ ?_
      exact X1.returnOut hx Bd.returns (hb hby d3_51) hr
    · show Q3 Z a6 _ h0 n0 _ T1.heap _
      rw [e1]
      exact ⟨rfl, N0, Keep.refl _ _, cl6, A6, I.congr (fun j hj => by unfold FF; rw [if_neg (fun q => by omega)])⟩
  · obtain ⟨T1, h1, locs1, cl1, X1, e1, N1, K1, B1, I1, st1⟩ := loop3 (a0 := a0) a1 a6 w7 (.val (.int (Int32.ofNat fr))) lev fr first last x P sent cl_w7 hx hZ hw hby hml hown D hP hB hxB hL f1 f2 ff f5 l4 g6 n06 n76 (last + 1 - fr) fr (by omega) (Nat.le_refl _) X0 e0 N0 F A7 A6 (I.congr (fun j hj => by unfold GG; rw [if_neg (fun q => by omega)]))
    obtain ⟨T2, X2, e2, st2⟩ := exit3 (a0 := a0) (.val (.ref a1)) (.val (.double (FP.l2d lev))) .second (.val (.int (Int32.ofNat fr))) (.val (.int (Int32.ofNat first))) (Int32.ofNat last) (.val (.ref a6)) (.val (.double (FP.l2d (P last - P (fr - 1))))) .second (Int32.ofNat (last + 1)) X1 hx hZ hw hby hml hown e1 ((own_ltN (by omega) (by omega)).mpr (by omega))
    obtain ⟨fs, hr, hrun, hended, hW, hsame⟩ := X2.leave (v := none) (fun _ => rfl)
    refine ⟨_, _, pre0 _ ?_, hrun, hended, _, _, rfl, ?_, ⟨_, rfl⟩, hW, hsame.mono (by decide) (by decide)⟩
    · show Steps p.tables e below (s₁.setTop (mkF m 0 #[.val (.ref a1), .val (.double (FP.l2d lev)), .second, .val (.int (Int32.ofNat fr)), .val (.int (Int32.ofNat first)), .val (.int (Int32.ofNat last)), .val (.ref a6), .unset, .unset, .unset] [])) _
      refine XS.dconst0 X0.here hx rfl (hb hby d3_0) hd0 ?_
      show Steps p.tables e below (s₁.setTop (mkF m 1 #[.val (.ref a1), .val (.double (FP.l2d lev)), .second, .val (.int (Int32.ofNat fr)), .val (.int (Int32.ofNat first)), .val (.int (Int32.ofNat last)), .val (.ref a6), .unset, .unset, .unset] [(.double (FP.l2d (P (fr - 1) - P (fr - 1))))])) _
      refine XS.dstore X0.here hx rfl (hb hby d3_1) rfl (l' := #[.val (.ref a1), .val (.double (FP.l2d lev)), .second, .val (.int (Int32.ofNat fr)), .val (.int (Int32.ofNat first)), .val (.int (Int32.ofNat last)), .val (.ref a6), .val (.double (FP.l2d (P (fr - 1) - P (fr - 1)))), .second, .unset]) rfl ?_
      show Steps p.tables e below (s₁.setTop (mkF m 3 #[.val (.ref a1), .val (.double (FP.l2d lev)), .second, .val (.int (Int32.ofNat fr)), .val (.int (Int32.ofNat first)), .val (.int (Int32.ofNat last)), .val (.ref a6), .val (.double (FP.l2d (P (fr - 1) - P (fr - 1)))), .second, .unset] [])) _
      refine XS.iloadN X0.here hx rfl (hb hby d3_3) rfl ?_
      show Steps p.tables e below (s₁.setTop (mkF m 4 #[.val (.ref a1), .val (.double (FP.l2d lev)), .second, .val (.int (Int32.ofNat fr)), .val (.int (Int32.ofNat first)), .val (.int (Int32.ofNat last)), .val (.ref a6), .val (.double (FP.l2d (P (fr - 1) - P (fr - 1)))), .second, .unset] [(.int (Int32.ofNat fr))])) _
      refine XS.istore X0.here hx rfl (hb hby d3_4) rfl (l' := #[.val (.ref a1), .val (.double (FP.l2d lev)), .second, .val (.int (Int32.ofNat fr)), .val (.int (Int32.ofNat first)), .val (.int (Int32.ofNat last)), .val (.ref a6), .val (.double (FP.l2d (P (fr - 1) - P (fr - 1)))), .second, .val (.int (Int32.ofNat fr))]) rfl ?_
      show Steps p.tables e below (s₁.setTop (mkF m 6 #[.val (.ref a1), .val (.double (FP.l2d lev)), .second, .val (.int (Int32.ofNat fr)), .val (.int (Int32.ofNat first)), .val (.int (Int32.ofNat last)), .val (.ref a6), .val (.double (FP.l2d (P (fr - 1) - P (fr - 1)))), .second, .val (.int (Int32.ofNat fr))] [])) _
      refine st1 _ (st2 _ ?_)
      exact X2.returnOut hx Bd.returns (hb hby d3_51) hr
    · show Q3 Z a6 _ h0 n0 _ T2.heap _
      rw [e2]
      exact ⟨rfl, N1, K1, cl1, B1, I1.congr (fun j hj => by
        unfold FF GG
        by_cases q : first ≤ j + 1 ∧ j + 1 ≤ last
        · rw [if_pos q, if_pos ⟨q.1, by omega⟩]
        · rw [if_neg q, if_neg (fun z => q ⟨z.1, by omega⟩)])⟩
theorem d4_0 : decode method_3_code 0 = .ok (.iload_n 1, 1) := by decide +kernel
theorem d4_1 : decode method_3_code 1 = .ok (.iload 4, 2) := by decide +kernel
theorem d4_3 : decode method_3_code 3 = .ok (.if_icmp .lt 27, 3) := by decide +kernel
theorem d4_30 : decode method_3_code 30 = .ok (.dload 7, 2) := by decide +kernel
theorem d4_32 : decode method_3_code 32 = .ok (.dstore 9, 2) := by decide +kernel
theorem d4_34 : decode method_3_code 34 = .ok (.aload_n 0, 1) := by decide +kernel
theorem d4_35 : decode method_3_code 35 = .ok (.iload_n 1, 1) := by decide +kernel
theorem d4_36 : decode method_3_code 36 = .ok (.iconst 1, 1) := by decide +kernel
theorem d4_37 : decode method_3_code 37 = .ok (.isub, 1) := by decide +kernel
theorem d4_38 : decode method_3_code 38 = .ok (.daload, 1) := by decide +kernel
theorem d4_39 : decode method_3_code 39 = .ok (.dload 9, 2) := by decide +kernel
theorem d4_41 : decode method_3_code 41 = .ok (.dcmp .l, 1) := by decide +kernel
theorem d4_42 : decode method_3_code 42 = .ok (.ifCond .ne 7, 3) := by decide +kernel
theorem d4_45 : decode method_3_code 45 = .ok (.iconst 1, 1) := by decide +kernel
theorem d4_46 : decode method_3_code 46 = .ok (.goto 4, 3) := by decide +kernel
theorem d4_50 : decode method_3_code 50 = .ok (.ireturn, 1) := by decide +kernel
theorem pn_4 : plainName "com/example/cycle_by_chance/cyclebychance/model/DemandToDateDrawDownPinLaw" = true := by first | (simp [plainName, overriddenIn]; done) | decide +kernel
theorem ef_4 (m : MethodId) (x0 : Addr) (x1 : Int32) (x2 : Int32) (x3 : Int32) (x4 : Int32) (x5 : Int32) (x6 : Addr) (x7 : UInt64) : entryFrame m #[(.ref x0), (.int x1), (.int x2), (.int x3), (.int x4), (.int x5), (.ref x6), (.double x7)] 11 = mkF m 0 #[.val (.ref x0), .val (.int x1), .val (.int x2), .val (.int x3), .val (.int x4), .val (.int x5), .val (.ref x6), .val (.double x7), .second, .unset, .unset] [] := by first | (simp [entryFrame, mkF, argsToLocals, Value.category]; done) | rfl
set_option maxRecDepth 65536 in
set_option maxHeartbeats 40000000 in
theorem rm4_tf (l : Launch) (Z : State) (a0 : Array Value) (hw : ∀ d ∈ tables_1, d.before a0 Z = true) (ws : List Jvm.Cond) (a1 : Addr) (p2 : Int32) (p3 : Int32) (p4 : Int32) (p5 : Int32) (p6 : Int32) (a7 : Addr) (u8 : UInt64) (w9 : UInt64) (cl_a1 : Cell) (h0 : Heap) (n0 : Nat) (Z0 : n0 ≤ h0.size) (Ar_a1 : Arr Z h0 a1 cl_a1 .double) (hin38 : ¬ ((p2 - (1 : Int32)) < 0 ∨ cl_a1.slots.size ≤ ((p2 - (1 : Int32))).toNatClampNeg)) (hat38 : cl_a1.slots[((p2 - (1 : Int32))).toNatClampNeg]? = some (.double w9)) (hc3 : p2 < p5) (hc42 : (cmpValue (FP.dcmp w9 u8) .l) = (0 : Int32)) :
    MetFree l (⟨"com/example/cycle_by_chance/cyclebychance/model/DemandToDateDrawDownPinLaw", "ok", "([DIIIII[JD)Z"⟩ : MethodName) (head1 (Jvm.Cond.code (⟨"com/example/cycle_by_chance/cyclebychance/model/DemandToDateDrawDownPinLaw", "ok", "([DIIIII[JD)Z"⟩ : MethodName) method_3_code 11 (some .boolean) :: ws) ({ frames := 0, cells := 0, slots := 0, locals := 0 } : Room)) (fun a U => a = #[(.ref a1), (.int p2), (.int p3), (.int p4), (.int p5), (.int p6), (.ref a7), (.double u8)] ∧ Z.Warmed39 U.vm ∧ U.heap = h0) (fun _ _ _ _ _ => True) (fun _ U o U' => ∃ v L, o = .returned v ∧ QP (some (.int (1 : Int32))) h0 n0 v U'.heap L ∧ FrameEnd U o U' L ({ frames := 0, cells := 0, slots := 0, locals := 0 } : Room).cells ({ frames := 0, cells := 0, slots := 0, locals := 0 } : Room).slots) := by
  refine MetFree.of_bodySF (plainFor_of_name pn_4) hisR ?_
  intro p e s m args below meth c s₁ Bd hml0 hP hK
  obtain ⟨rfl, hZ, hh⟩ := hP
  have hx := Bd.exec
  have hby := Bd.bytes
  have hml : c.maxLocals = 11 := hml0
  have hown : s.vm.findClass "com/example/cycle_by_chance/cyclebychance/model/DemandToDateDrawDownPinLaw" = some m.cls := findClass_of_methodNamed Bd.named
  have hnm := (name_of_methodNamed Bd.named Bd.method).1
  have X0 : Stand p l e ({ frames := 0, cells := 0, slots := 0, locals := 0 } : Room) s m #[(.ref a1), (.int p2), (.int p3), (.int p4), (.int p5), (.int p6), (.ref a7), (.double u8)] below meth c s₁ [] 0 0 := Stand.of_body Bd
  have e0 : s₁.heap = h0 := by rw [← hh, Bd.state]; rfl
  have N0 := Fr.nil n0
  have pre0 : ∀ t, Steps p.tables e below (s₁.setTop (mkF m 0 #[.val (.ref a1), .val (.int p2), .val (.int p3), .val (.int p4), .val (.int p5), .val (.int p6), .val (.ref a7), .val (.double u8), .second, .unset, .unset] [])) t → Steps p.tables e below (s₁.setTop (entryFrame m #[(.ref a1), (.int p2), (.int p3), (.int p4), (.int p5), (.int p6), (.ref a7), (.double u8)] 11)) t := fun t k => castTop (ef_4 m a1 p2 p3 p4 p5 p6 a7 u8) k

  obtain ⟨fs, hr, hrun, hended, hW, hsame⟩ := X0.leave (v := some (.int (1 : Int32))) (fun h => by rw [Bd.returns] at h; cases h)
  refine ⟨_, _, pre0 _ ?_, hrun, hended, _, _, rfl, ?_, ⟨_, rfl⟩, hW, hsame.mono (by decide) (by decide)⟩
  · show Steps p.tables e below (s₁.setTop (mkF m 0 #[.val (.ref a1), .val (.int p2), .val (.int p3), .val (.int p4), .val (.int p5), .val (.int p6), .val (.ref a7), .val (.double u8), .second, .unset, .unset] [])) _
    refine XS.iloadN X0.here hx rfl (hb hby d4_0) rfl ?_
    show Steps p.tables e below (s₁.setTop (mkF m 1 #[.val (.ref a1), .val (.int p2), .val (.int p3), .val (.int p4), .val (.int p5), .val (.int p6), .val (.ref a7), .val (.double u8), .second, .unset, .unset] [(.int p2)])) _
    refine XS.iload X0.here hx rfl (hb hby d4_1) rfl ?_
    show Steps p.tables e below (s₁.setTop (mkF m 3 #[.val (.ref a1), .val (.int p2), .val (.int p3), .val (.int p4), .val (.int p5), .val (.int p6), .val (.ref a7), .val (.double u8), .second, .unset, .unset] [(.int p5), (.int p2)])) _
    refine XS.icmpYes X0.here hx rfl (pc0 := 3) (pc' := 30) rfl (hb hby d4_3) rfl (tlt hc3).1 (by decide) (by decide) ?_
    show Steps p.tables e below (s₁.setTop (mkF m 30 #[.val (.ref a1), .val (.int p2), .val (.int p3), .val (.int p4), .val (.int p5), .val (.int p6), .val (.ref a7), .val (.double u8), .second, .unset, .unset] [])) _
    refine XS.dload X0.here hx rfl (hb hby d4_30) rfl ?_
    show Steps p.tables e below (s₁.setTop (mkF m 32 #[.val (.ref a1), .val (.int p2), .val (.int p3), .val (.int p4), .val (.int p5), .val (.int p6), .val (.ref a7), .val (.double u8), .second, .unset, .unset] [(.double u8)])) _
    refine XS.dstore X0.here hx rfl (hb hby d4_32) rfl (l' := #[.val (.ref a1), .val (.int p2), .val (.int p3), .val (.int p4), .val (.int p5), .val (.int p6), .val (.ref a7), .val (.double u8), .second, .val (.double u8), .second]) rfl ?_
    show Steps p.tables e below (s₁.setTop (mkF m 34 #[.val (.ref a1), .val (.int p2), .val (.int p3), .val (.int p4), .val (.int p5), .val (.int p6), .val (.ref a7), .val (.double u8), .second, .val (.double u8), .second] [])) _
    refine XS.aloadN X0.here hx rfl (hb hby d4_34) rfl rfl ?_
    show Steps p.tables e below (s₁.setTop (mkF m 35 #[.val (.ref a1), .val (.int p2), .val (.int p3), .val (.int p4), .val (.int p5), .val (.int p6), .val (.ref a7), .val (.double u8), .second, .val (.double u8), .second] [(.ref a1)])) _
    refine XS.iloadN X0.here hx rfl (hb hby d4_35) rfl ?_
    show Steps p.tables e below (s₁.setTop (mkF m 36 #[.val (.ref a1), .val (.int p2), .val (.int p3), .val (.int p4), .val (.int p5), .val (.int p6), .val (.ref a7), .val (.double u8), .second, .val (.double u8), .second] [(.int p2), (.ref a1)])) _
    refine XS.iconst X0.here hx rfl (hb hby d4_36) ?_
    show Steps p.tables e below (s₁.setTop (mkF m 37 #[.val (.ref a1), .val (.int p2), .val (.int p3), .val (.int p4), .val (.int p5), .val (.int p6), .val (.ref a7), .val (.double u8), .second, .val (.double u8), .second] [(.int (1 : Int32)), (.int p2), (.ref a1)])) _
    refine XS.isub X0.here hx rfl (hb hby d4_37) rfl ?_
    show Steps p.tables e below (s₁.setTop (mkF m 38 #[.val (.ref a1), .val (.int p2), .val (.int p3), .val (.int p4), .val (.int p5), .val (.int p6), .val (.ref a7), .val (.double u8), .second, .val (.double u8), .second] [(.int (p2 - (1 : Int32))), (.ref a1)])) _
    refine X0.daload hx (j := (p2 - (1 : Int32))) (v := (.double w9)) (by rw [e0]; exact Ar_a1.1) (State.isArrayOf_alike hZ.alike Ar_a1.2.1) Ar_a1.2.2 hin38 hat38 (g := (mkF m 38 #[.val (.ref a1), .val (.int p2), .val (.int p3), .val (.int p4), .val (.int p5), .val (.int p6), .val (.ref a7), .val (.double u8), .second, .val (.double u8), .second] [(.int (p2 - (1 : Int32))), (.ref a1)])) rfl rfl (hb hby d4_38) _ ?_
    show Steps p.tables e below (s₁.setTop (mkF m 39 #[.val (.ref a1), .val (.int p2), .val (.int p3), .val (.int p4), .val (.int p5), .val (.int p6), .val (.ref a7), .val (.double u8), .second, .val (.double u8), .second] [(.double w9)])) _
    refine XS.dload X0.here hx rfl (hb hby d4_39) rfl ?_
    show Steps p.tables e below (s₁.setTop (mkF m 41 #[.val (.ref a1), .val (.int p2), .val (.int p3), .val (.int p4), .val (.int p5), .val (.int p6), .val (.ref a7), .val (.double u8), .second, .val (.double u8), .second] [(.double u8), (.double w9)])) _
    refine XS.dcmpS X0.here hx rfl (hb hby d4_41) rfl rfl ?_
    show Steps p.tables e below (s₁.setTop (mkF m 42 #[.val (.ref a1), .val (.int p2), .val (.int p3), .val (.int p4), .val (.int p5), .val (.int p6), .val (.ref a7), .val (.double u8), .second, .val (.double u8), .second] [(.int (cmpValue (FP.dcmp w9 u8) .l))])) _
    refine XS.ifNo X0.here hx rfl (hb hby d4_42) rfl ((if0 _ _).trans (teq hc42).2) ?_
    show Steps p.tables e below (s₁.setTop (mkF m 45 #[.val (.ref a1), .val (.int p2), .val (.int p3), .val (.int p4), .val (.int p5), .val (.int p6), .val (.ref a7), .val (.double u8), .second, .val (.double u8), .second] [])) _
    refine XS.iconst X0.here hx rfl (hb hby d4_45) ?_
    show Steps p.tables e below (s₁.setTop (mkF m 46 #[.val (.ref a1), .val (.int p2), .val (.int p3), .val (.int p4), .val (.int p5), .val (.int p6), .val (.ref a7), .val (.double u8), .second, .val (.double u8), .second] [(.int (1 : Int32))])) _
    refine XS.goto X0.here hx rfl (pc0 := 46) (pc' := 50) rfl (hb hby d4_46) (by decide) (by decide) ?_
    show Steps p.tables e below (s₁.setTop (mkF m 50 #[.val (.ref a1), .val (.int p2), .val (.int p3), .val (.int p4), .val (.int p5), .val (.int p6), .val (.ref a7), .val (.double u8), .second, .val (.double u8), .second] [(.int (1 : Int32))])) _
    exact retN X0 hx (t := .boolean) Bd.returns (by simp) (hb hby d4_50) hr
  · show QP (some (.int (1 : Int32))) h0 n0 _ s₁.heap _
    rw [e0]
    exact ⟨rfl, N0, rfl⟩
theorem d4_6 : decode method_3_code 6 = .ok (.iload_n 1, 1) := by decide +kernel
theorem d4_7 : decode method_3_code 7 = .ok (.iload 5, 2) := by decide +kernel
theorem d4_9 : decode method_3_code 9 = .ok (.if_icmp .gt 21, 3) := by decide +kernel
set_option maxRecDepth 65536 in
set_option maxHeartbeats 40000000 in
theorem rm4_ftf (l : Launch) (Z : State) (a0 : Array Value) (hw : ∀ d ∈ tables_1, d.before a0 Z = true) (ws : List Jvm.Cond) (a1 : Addr) (p2 : Int32) (p3 : Int32) (p4 : Int32) (p5 : Int32) (p6 : Int32) (a7 : Addr) (u8 : UInt64) (w9 : UInt64) (cl_a1 : Cell) (h0 : Heap) (n0 : Nat) (Z0 : n0 ≤ h0.size) (Ar_a1 : Arr Z h0 a1 cl_a1 .double) (hin38 : ¬ ((p2 - (1 : Int32)) < 0 ∨ cl_a1.slots.size ≤ ((p2 - (1 : Int32))).toNatClampNeg)) (hat38 : cl_a1.slots[((p2 - (1 : Int32))).toNatClampNeg]? = some (.double w9)) (hc3 : ¬ (p2 < p5)) (hc9 : p6 < p2) (hc42 : (cmpValue (FP.dcmp w9 u8) .l) = (0 : Int32)) :
    MetFree l (⟨"com/example/cycle_by_chance/cyclebychance/model/DemandToDateDrawDownPinLaw", "ok", "([DIIIII[JD)Z"⟩ : MethodName) (head1 (Jvm.Cond.code (⟨"com/example/cycle_by_chance/cyclebychance/model/DemandToDateDrawDownPinLaw", "ok", "([DIIIII[JD)Z"⟩ : MethodName) method_3_code 11 (some .boolean) :: ws) ({ frames := 0, cells := 0, slots := 0, locals := 0 } : Room)) (fun a U => a = #[(.ref a1), (.int p2), (.int p3), (.int p4), (.int p5), (.int p6), (.ref a7), (.double u8)] ∧ Z.Warmed39 U.vm ∧ U.heap = h0) (fun _ _ _ _ _ => True) (fun _ U o U' => ∃ v L, o = .returned v ∧ QP (some (.int (1 : Int32))) h0 n0 v U'.heap L ∧ FrameEnd U o U' L ({ frames := 0, cells := 0, slots := 0, locals := 0 } : Room).cells ({ frames := 0, cells := 0, slots := 0, locals := 0 } : Room).slots) := by
  refine MetFree.of_bodySF (plainFor_of_name pn_4) hisR ?_
  intro p e s m args below meth c s₁ Bd hml0 hP hK
  obtain ⟨rfl, hZ, hh⟩ := hP
  have hx := Bd.exec
  have hby := Bd.bytes
  have hml : c.maxLocals = 11 := hml0
  have hown : s.vm.findClass "com/example/cycle_by_chance/cyclebychance/model/DemandToDateDrawDownPinLaw" = some m.cls := findClass_of_methodNamed Bd.named
  have hnm := (name_of_methodNamed Bd.named Bd.method).1
  have X0 : Stand p l e ({ frames := 0, cells := 0, slots := 0, locals := 0 } : Room) s m #[(.ref a1), (.int p2), (.int p3), (.int p4), (.int p5), (.int p6), (.ref a7), (.double u8)] below meth c s₁ [] 0 0 := Stand.of_body Bd
  have e0 : s₁.heap = h0 := by rw [← hh, Bd.state]; rfl
  have N0 := Fr.nil n0
  have pre0 : ∀ t, Steps p.tables e below (s₁.setTop (mkF m 0 #[.val (.ref a1), .val (.int p2), .val (.int p3), .val (.int p4), .val (.int p5), .val (.int p6), .val (.ref a7), .val (.double u8), .second, .unset, .unset] [])) t → Steps p.tables e below (s₁.setTop (entryFrame m #[(.ref a1), (.int p2), (.int p3), (.int p4), (.int p5), (.int p6), (.ref a7), (.double u8)] 11)) t := fun t k => castTop (ef_4 m a1 p2 p3 p4 p5 p6 a7 u8) k

  obtain ⟨fs, hr, hrun, hended, hW, hsame⟩ := X0.leave (v := some (.int (1 : Int32))) (fun h => by rw [Bd.returns] at h; cases h)
  refine ⟨_, _, pre0 _ ?_, hrun, hended, _, _, rfl, ?_, ⟨_, rfl⟩, hW, hsame.mono (by decide) (by decide)⟩
  · show Steps p.tables e below (s₁.setTop (mkF m 0 #[.val (.ref a1), .val (.int p2), .val (.int p3), .val (.int p4), .val (.int p5), .val (.int p6), .val (.ref a7), .val (.double u8), .second, .unset, .unset] [])) _
    refine XS.iloadN X0.here hx rfl (hb hby d4_0) rfl ?_
    show Steps p.tables e below (s₁.setTop (mkF m 1 #[.val (.ref a1), .val (.int p2), .val (.int p3), .val (.int p4), .val (.int p5), .val (.int p6), .val (.ref a7), .val (.double u8), .second, .unset, .unset] [(.int p2)])) _
    refine XS.iload X0.here hx rfl (hb hby d4_1) rfl ?_
    show Steps p.tables e below (s₁.setTop (mkF m 3 #[.val (.ref a1), .val (.int p2), .val (.int p3), .val (.int p4), .val (.int p5), .val (.int p6), .val (.ref a7), .val (.double u8), .second, .unset, .unset] [(.int p5), (.int p2)])) _
    refine XS.icmpNo X0.here hx rfl (hb hby d4_3) rfl (flt hc3).1 ?_
    show Steps p.tables e below (s₁.setTop (mkF m 6 #[.val (.ref a1), .val (.int p2), .val (.int p3), .val (.int p4), .val (.int p5), .val (.int p6), .val (.ref a7), .val (.double u8), .second, .unset, .unset] [])) _
    refine XS.iloadN X0.here hx rfl (hb hby d4_6) rfl ?_
    show Steps p.tables e below (s₁.setTop (mkF m 7 #[.val (.ref a1), .val (.int p2), .val (.int p3), .val (.int p4), .val (.int p5), .val (.int p6), .val (.ref a7), .val (.double u8), .second, .unset, .unset] [(.int p2)])) _
    refine XS.iload X0.here hx rfl (hb hby d4_7) rfl ?_
    show Steps p.tables e below (s₁.setTop (mkF m 9 #[.val (.ref a1), .val (.int p2), .val (.int p3), .val (.int p4), .val (.int p5), .val (.int p6), .val (.ref a7), .val (.double u8), .second, .unset, .unset] [(.int p6), (.int p2)])) _
    refine XS.icmpYes X0.here hx rfl (pc0 := 9) (pc' := 30) rfl (hb hby d4_9) rfl (tlt hc9).2.2.1 (by decide) (by decide) ?_
    show Steps p.tables e below (s₁.setTop (mkF m 30 #[.val (.ref a1), .val (.int p2), .val (.int p3), .val (.int p4), .val (.int p5), .val (.int p6), .val (.ref a7), .val (.double u8), .second, .unset, .unset] [])) _
    refine XS.dload X0.here hx rfl (hb hby d4_30) rfl ?_
    show Steps p.tables e below (s₁.setTop (mkF m 32 #[.val (.ref a1), .val (.int p2), .val (.int p3), .val (.int p4), .val (.int p5), .val (.int p6), .val (.ref a7), .val (.double u8), .second, .unset, .unset] [(.double u8)])) _
    refine XS.dstore X0.here hx rfl (hb hby d4_32) rfl (l' := #[.val (.ref a1), .val (.int p2), .val (.int p3), .val (.int p4), .val (.int p5), .val (.int p6), .val (.ref a7), .val (.double u8), .second, .val (.double u8), .second]) rfl ?_
    show Steps p.tables e below (s₁.setTop (mkF m 34 #[.val (.ref a1), .val (.int p2), .val (.int p3), .val (.int p4), .val (.int p5), .val (.int p6), .val (.ref a7), .val (.double u8), .second, .val (.double u8), .second] [])) _
    refine XS.aloadN X0.here hx rfl (hb hby d4_34) rfl rfl ?_
    show Steps p.tables e below (s₁.setTop (mkF m 35 #[.val (.ref a1), .val (.int p2), .val (.int p3), .val (.int p4), .val (.int p5), .val (.int p6), .val (.ref a7), .val (.double u8), .second, .val (.double u8), .second] [(.ref a1)])) _
    refine XS.iloadN X0.here hx rfl (hb hby d4_35) rfl ?_
    show Steps p.tables e below (s₁.setTop (mkF m 36 #[.val (.ref a1), .val (.int p2), .val (.int p3), .val (.int p4), .val (.int p5), .val (.int p6), .val (.ref a7), .val (.double u8), .second, .val (.double u8), .second] [(.int p2), (.ref a1)])) _
    refine XS.iconst X0.here hx rfl (hb hby d4_36) ?_
    show Steps p.tables e below (s₁.setTop (mkF m 37 #[.val (.ref a1), .val (.int p2), .val (.int p3), .val (.int p4), .val (.int p5), .val (.int p6), .val (.ref a7), .val (.double u8), .second, .val (.double u8), .second] [(.int (1 : Int32)), (.int p2), (.ref a1)])) _
    refine XS.isub X0.here hx rfl (hb hby d4_37) rfl ?_
    show Steps p.tables e below (s₁.setTop (mkF m 38 #[.val (.ref a1), .val (.int p2), .val (.int p3), .val (.int p4), .val (.int p5), .val (.int p6), .val (.ref a7), .val (.double u8), .second, .val (.double u8), .second] [(.int (p2 - (1 : Int32))), (.ref a1)])) _
    refine X0.daload hx (j := (p2 - (1 : Int32))) (v := (.double w9)) (by rw [e0]; exact Ar_a1.1) (State.isArrayOf_alike hZ.alike Ar_a1.2.1) Ar_a1.2.2 hin38 hat38 (g := (mkF m 38 #[.val (.ref a1), .val (.int p2), .val (.int p3), .val (.int p4), .val (.int p5), .val (.int p6), .val (.ref a7), .val (.double u8), .second, .val (.double u8), .second] [(.int (p2 - (1 : Int32))), (.ref a1)])) rfl rfl (hb hby d4_38) _ ?_
    show Steps p.tables e below (s₁.setTop (mkF m 39 #[.val (.ref a1), .val (.int p2), .val (.int p3), .val (.int p4), .val (.int p5), .val (.int p6), .val (.ref a7), .val (.double u8), .second, .val (.double u8), .second] [(.double w9)])) _
    refine XS.dload X0.here hx rfl (hb hby d4_39) rfl ?_
    show Steps p.tables e below (s₁.setTop (mkF m 41 #[.val (.ref a1), .val (.int p2), .val (.int p3), .val (.int p4), .val (.int p5), .val (.int p6), .val (.ref a7), .val (.double u8), .second, .val (.double u8), .second] [(.double u8), (.double w9)])) _
    refine XS.dcmpS X0.here hx rfl (hb hby d4_41) rfl rfl ?_
    show Steps p.tables e below (s₁.setTop (mkF m 42 #[.val (.ref a1), .val (.int p2), .val (.int p3), .val (.int p4), .val (.int p5), .val (.int p6), .val (.ref a7), .val (.double u8), .second, .val (.double u8), .second] [(.int (cmpValue (FP.dcmp w9 u8) .l))])) _
    refine XS.ifNo X0.here hx rfl (hb hby d4_42) rfl ((if0 _ _).trans (teq hc42).2) ?_
    show Steps p.tables e below (s₁.setTop (mkF m 45 #[.val (.ref a1), .val (.int p2), .val (.int p3), .val (.int p4), .val (.int p5), .val (.int p6), .val (.ref a7), .val (.double u8), .second, .val (.double u8), .second] [])) _
    refine XS.iconst X0.here hx rfl (hb hby d4_45) ?_
    show Steps p.tables e below (s₁.setTop (mkF m 46 #[.val (.ref a1), .val (.int p2), .val (.int p3), .val (.int p4), .val (.int p5), .val (.int p6), .val (.ref a7), .val (.double u8), .second, .val (.double u8), .second] [(.int (1 : Int32))])) _
    refine XS.goto X0.here hx rfl (pc0 := 46) (pc' := 50) rfl (hb hby d4_46) (by decide) (by decide) ?_
    show Steps p.tables e below (s₁.setTop (mkF m 50 #[.val (.ref a1), .val (.int p2), .val (.int p3), .val (.int p4), .val (.int p5), .val (.int p6), .val (.ref a7), .val (.double u8), .second, .val (.double u8), .second] [(.int (1 : Int32))])) _
    exact retN X0 hx (t := .boolean) Bd.returns (by simp) (hb hby d4_50) hr
  · show QP (some (.int (1 : Int32))) h0 n0 _ s₁.heap _
    rw [e0]
    exact ⟨rfl, N0, rfl⟩
theorem d4_12 : decode method_3_code 12 = .ok (.iload_n 2, 1) := by decide +kernel
theorem d4_13 : decode method_3_code 13 = .ok (.i2l, 1) := by decide +kernel
theorem d4_14 : decode method_3_code 14 = .ok (.aload 6, 2) := by decide +kernel
theorem d4_16 : decode method_3_code 16 = .ok (.iload_n 1, 1) := by decide +kernel
theorem d4_17 : decode method_3_code 17 = .ok (.laload, 1) := by decide +kernel
theorem d4_18 : decode method_3_code 18 = .ok (.aload 6, 2) := by decide +kernel
theorem d4_20 : decode method_3_code 20 = .ok (.iload_n 3, 1) := by decide +kernel
theorem d4_21 : decode method_3_code 21 = .ok (.iconst 1, 1) := by decide +kernel
theorem d4_22 : decode method_3_code 22 = .ok (.isub, 1) := by decide +kernel
theorem d4_23 : decode method_3_code 23 = .ok (.laload, 1) := by decide +kernel
theorem d4_24 : decode method_3_code 24 = .ok (.lsub, 1) := by decide +kernel
theorem d4_25 : decode method_3_code 25 = .ok (.lsub, 1) := by decide +kernel
theorem d4_26 : decode method_3_code 26 = .ok (.l2d, 1) := by decide +kernel
theorem d4_27 : decode method_3_code 27 = .ok (.goto 5, 3) := by decide +kernel
set_option maxRecDepth 65536 in
set_option maxHeartbeats 40000000 in
theorem rm4_fff (l : Launch) (Z : State) (a0 : Array Value) (hw : ∀ d ∈ tables_1, d.before a0 Z = true) (ws : List Jvm.Cond) (a1 : Addr) (p2 : Int32) (p3 : Int32) (p4 : Int32) (p5 : Int32) (p6 : Int32) (a7 : Addr) (u8 : UInt64) (w9 : Int64) (cl_a7 : Cell) (w10 : Int64) (w11 : UInt64) (cl_a1 : Cell) (h0 : Heap) (n0 : Nat) (Z0 : n0 ≤ h0.size) (Ar_a7 : Arr Z h0 a7 cl_a7 .long) (hin17 : ¬ (p2 < 0 ∨ cl_a7.slots.size ≤ (p2).toNatClampNeg)) (hat17 : cl_a7.slots[(p2).toNatClampNeg]? = some (.long w9)) (hin23 : ¬ ((p4 - (1 : Int32)) < 0 ∨ cl_a7.slots.size ≤ ((p4 - (1 : Int32))).toNatClampNeg)) (hat23 : cl_a7.slots[((p4 - (1 : Int32))).toNatClampNeg]? = some (.long w10)) (Ar_a1 : Arr Z h0 a1 cl_a1 .double) (hin38 : ¬ ((p2 - (1 : Int32)) < 0 ∨ cl_a1.slots.size ≤ ((p2 - (1 : Int32))).toNatClampNeg)) (hat38 : cl_a1.slots[((p2 - (1 : Int32))).toNatClampNeg]? = some (.double w11)) (hc3 : ¬ (p2 < p5)) (hc9 : ¬ (p6 < p2)) (hc42 : (cmpValue (FP.dcmp w11 (FP.l2d ((p3.toInt64) - (w9 - w10)))) .l) = (0 : Int32)) :
    MetFree l (⟨"com/example/cycle_by_chance/cyclebychance/model/DemandToDateDrawDownPinLaw", "ok", "([DIIIII[JD)Z"⟩ : MethodName) (head1 (Jvm.Cond.code (⟨"com/example/cycle_by_chance/cyclebychance/model/DemandToDateDrawDownPinLaw", "ok", "([DIIIII[JD)Z"⟩ : MethodName) method_3_code 11 (some .boolean) :: ws) ({ frames := 0, cells := 0, slots := 0, locals := 0 } : Room)) (fun a U => a = #[(.ref a1), (.int p2), (.int p3), (.int p4), (.int p5), (.int p6), (.ref a7), (.double u8)] ∧ Z.Warmed39 U.vm ∧ U.heap = h0) (fun _ _ _ _ _ => True) (fun _ U o U' => ∃ v L, o = .returned v ∧ QP (some (.int (1 : Int32))) h0 n0 v U'.heap L ∧ FrameEnd U o U' L ({ frames := 0, cells := 0, slots := 0, locals := 0 } : Room).cells ({ frames := 0, cells := 0, slots := 0, locals := 0 } : Room).slots) := by
  refine MetFree.of_bodySF (plainFor_of_name pn_4) hisR ?_
  intro p e s m args below meth c s₁ Bd hml0 hP hK
  obtain ⟨rfl, hZ, hh⟩ := hP
  have hx := Bd.exec
  have hby := Bd.bytes
  have hml : c.maxLocals = 11 := hml0
  have hown : s.vm.findClass "com/example/cycle_by_chance/cyclebychance/model/DemandToDateDrawDownPinLaw" = some m.cls := findClass_of_methodNamed Bd.named
  have hnm := (name_of_methodNamed Bd.named Bd.method).1
  have X0 : Stand p l e ({ frames := 0, cells := 0, slots := 0, locals := 0 } : Room) s m #[(.ref a1), (.int p2), (.int p3), (.int p4), (.int p5), (.int p6), (.ref a7), (.double u8)] below meth c s₁ [] 0 0 := Stand.of_body Bd
  have e0 : s₁.heap = h0 := by rw [← hh, Bd.state]; rfl
  have N0 := Fr.nil n0
  have pre0 : ∀ t, Steps p.tables e below (s₁.setTop (mkF m 0 #[.val (.ref a1), .val (.int p2), .val (.int p3), .val (.int p4), .val (.int p5), .val (.int p6), .val (.ref a7), .val (.double u8), .second, .unset, .unset] [])) t → Steps p.tables e below (s₁.setTop (entryFrame m #[(.ref a1), (.int p2), (.int p3), (.int p4), (.int p5), (.int p6), (.ref a7), (.double u8)] 11)) t := fun t k => castTop (ef_4 m a1 p2 p3 p4 p5 p6 a7 u8) k

  obtain ⟨fs, hr, hrun, hended, hW, hsame⟩ := X0.leave (v := some (.int (1 : Int32))) (fun h => by rw [Bd.returns] at h; cases h)
  refine ⟨_, _, pre0 _ ?_, hrun, hended, _, _, rfl, ?_, ⟨_, rfl⟩, hW, hsame.mono (by decide) (by decide)⟩
  · show Steps p.tables e below (s₁.setTop (mkF m 0 #[.val (.ref a1), .val (.int p2), .val (.int p3), .val (.int p4), .val (.int p5), .val (.int p6), .val (.ref a7), .val (.double u8), .second, .unset, .unset] [])) _
    refine XS.iloadN X0.here hx rfl (hb hby d4_0) rfl ?_
    show Steps p.tables e below (s₁.setTop (mkF m 1 #[.val (.ref a1), .val (.int p2), .val (.int p3), .val (.int p4), .val (.int p5), .val (.int p6), .val (.ref a7), .val (.double u8), .second, .unset, .unset] [(.int p2)])) _
    refine XS.iload X0.here hx rfl (hb hby d4_1) rfl ?_
    show Steps p.tables e below (s₁.setTop (mkF m 3 #[.val (.ref a1), .val (.int p2), .val (.int p3), .val (.int p4), .val (.int p5), .val (.int p6), .val (.ref a7), .val (.double u8), .second, .unset, .unset] [(.int p5), (.int p2)])) _
    refine XS.icmpNo X0.here hx rfl (hb hby d4_3) rfl (flt hc3).1 ?_
    show Steps p.tables e below (s₁.setTop (mkF m 6 #[.val (.ref a1), .val (.int p2), .val (.int p3), .val (.int p4), .val (.int p5), .val (.int p6), .val (.ref a7), .val (.double u8), .second, .unset, .unset] [])) _
    refine XS.iloadN X0.here hx rfl (hb hby d4_6) rfl ?_
    show Steps p.tables e below (s₁.setTop (mkF m 7 #[.val (.ref a1), .val (.int p2), .val (.int p3), .val (.int p4), .val (.int p5), .val (.int p6), .val (.ref a7), .val (.double u8), .second, .unset, .unset] [(.int p2)])) _
    refine XS.iload X0.here hx rfl (hb hby d4_7) rfl ?_
    show Steps p.tables e below (s₁.setTop (mkF m 9 #[.val (.ref a1), .val (.int p2), .val (.int p3), .val (.int p4), .val (.int p5), .val (.int p6), .val (.ref a7), .val (.double u8), .second, .unset, .unset] [(.int p6), (.int p2)])) _
    refine XS.icmpNo X0.here hx rfl (hb hby d4_9) rfl (flt hc9).2.2.1 ?_
    show Steps p.tables e below (s₁.setTop (mkF m 12 #[.val (.ref a1), .val (.int p2), .val (.int p3), .val (.int p4), .val (.int p5), .val (.int p6), .val (.ref a7), .val (.double u8), .second, .unset, .unset] [])) _
    refine XS.iloadN X0.here hx rfl (hb hby d4_12) rfl ?_
    show Steps p.tables e below (s₁.setTop (mkF m 13 #[.val (.ref a1), .val (.int p2), .val (.int p3), .val (.int p4), .val (.int p5), .val (.int p6), .val (.ref a7), .val (.double u8), .second, .unset, .unset] [(.int p3)])) _
    refine XS.i2l X0.here hx rfl (hb hby d4_13) rfl ?_
    show Steps p.tables e below (s₁.setTop (mkF m 14 #[.val (.ref a1), .val (.int p2), .val (.int p3), .val (.int p4), .val (.int p5), .val (.int p6), .val (.ref a7), .val (.double u8), .second, .unset, .unset] [(.long (p3.toInt64))])) _
    refine XS.aload X0.here hx rfl (hb hby d4_14) rfl rfl ?_
    show Steps p.tables e below (s₁.setTop (mkF m 16 #[.val (.ref a1), .val (.int p2), .val (.int p3), .val (.int p4), .val (.int p5), .val (.int p6), .val (.ref a7), .val (.double u8), .second, .unset, .unset] [(.ref a7), (.long (p3.toInt64))])) _
    refine XS.iloadN X0.here hx rfl (hb hby d4_16) rfl ?_
    show Steps p.tables e below (s₁.setTop (mkF m 17 #[.val (.ref a1), .val (.int p2), .val (.int p3), .val (.int p4), .val (.int p5), .val (.int p6), .val (.ref a7), .val (.double u8), .second, .unset, .unset] [(.int p2), (.ref a7), (.long (p3.toInt64))])) _
    refine X0.laload hx (j := p2) (v := (.long w9)) (by rw [e0]; exact Ar_a7.1) (State.isArrayOf_alike hZ.alike Ar_a7.2.1) Ar_a7.2.2 hin17 hat17 (g := (mkF m 17 #[.val (.ref a1), .val (.int p2), .val (.int p3), .val (.int p4), .val (.int p5), .val (.int p6), .val (.ref a7), .val (.double u8), .second, .unset, .unset] [(.int p2), (.ref a7), (.long (p3.toInt64))])) rfl rfl (hb hby d4_17) _ ?_
    show Steps p.tables e below (s₁.setTop (mkF m 18 #[.val (.ref a1), .val (.int p2), .val (.int p3), .val (.int p4), .val (.int p5), .val (.int p6), .val (.ref a7), .val (.double u8), .second, .unset, .unset] [(.long w9), (.long (p3.toInt64))])) _
    refine XS.aload X0.here hx rfl (hb hby d4_18) rfl rfl ?_
    show Steps p.tables e below (s₁.setTop (mkF m 20 #[.val (.ref a1), .val (.int p2), .val (.int p3), .val (.int p4), .val (.int p5), .val (.int p6), .val (.ref a7), .val (.double u8), .second, .unset, .unset] [(.ref a7), (.long w9), (.long (p3.toInt64))])) _
    refine XS.iloadN X0.here hx rfl (hb hby d4_20) rfl ?_
    show Steps p.tables e below (s₁.setTop (mkF m 21 #[.val (.ref a1), .val (.int p2), .val (.int p3), .val (.int p4), .val (.int p5), .val (.int p6), .val (.ref a7), .val (.double u8), .second, .unset, .unset] [(.int p4), (.ref a7), (.long w9), (.long (p3.toInt64))])) _
    refine XS.iconst X0.here hx rfl (hb hby d4_21) ?_
    show Steps p.tables e below (s₁.setTop (mkF m 22 #[.val (.ref a1), .val (.int p2), .val (.int p3), .val (.int p4), .val (.int p5), .val (.int p6), .val (.ref a7), .val (.double u8), .second, .unset, .unset] [(.int (1 : Int32)), (.int p4), (.ref a7), (.long w9), (.long (p3.toInt64))])) _
    refine XS.isub X0.here hx rfl (hb hby d4_22) rfl ?_
    show Steps p.tables e below (s₁.setTop (mkF m 23 #[.val (.ref a1), .val (.int p2), .val (.int p3), .val (.int p4), .val (.int p5), .val (.int p6), .val (.ref a7), .val (.double u8), .second, .unset, .unset] [(.int (p4 - (1 : Int32))), (.ref a7), (.long w9), (.long (p3.toInt64))])) _
    refine X0.laload hx (j := (p4 - (1 : Int32))) (v := (.long w10)) (by rw [e0]; exact Ar_a7.1) (State.isArrayOf_alike hZ.alike Ar_a7.2.1) Ar_a7.2.2 hin23 hat23 (g := (mkF m 23 #[.val (.ref a1), .val (.int p2), .val (.int p3), .val (.int p4), .val (.int p5), .val (.int p6), .val (.ref a7), .val (.double u8), .second, .unset, .unset] [(.int (p4 - (1 : Int32))), (.ref a7), (.long w9), (.long (p3.toInt64))])) rfl rfl (hb hby d4_23) _ ?_
    show Steps p.tables e below (s₁.setTop (mkF m 24 #[.val (.ref a1), .val (.int p2), .val (.int p3), .val (.int p4), .val (.int p5), .val (.int p6), .val (.ref a7), .val (.double u8), .second, .unset, .unset] [(.long w10), (.long w9), (.long (p3.toInt64))])) _
    refine XS.lsub X0.here hx rfl (hb hby d4_24) rfl ?_
    show Steps p.tables e below (s₁.setTop (mkF m 25 #[.val (.ref a1), .val (.int p2), .val (.int p3), .val (.int p4), .val (.int p5), .val (.int p6), .val (.ref a7), .val (.double u8), .second, .unset, .unset] [(.long (w9 - w10)), (.long (p3.toInt64))])) _
    refine XS.lsub X0.here hx rfl (hb hby d4_25) rfl ?_
    show Steps p.tables e below (s₁.setTop (mkF m 26 #[.val (.ref a1), .val (.int p2), .val (.int p3), .val (.int p4), .val (.int p5), .val (.int p6), .val (.ref a7), .val (.double u8), .second, .unset, .unset] [(.long ((p3.toInt64) - (w9 - w10)))])) _
    refine XS.l2dS X0.here hx rfl (hb hby d4_26) rfl rfl ?_
    show Steps p.tables e below (s₁.setTop (mkF m 27 #[.val (.ref a1), .val (.int p2), .val (.int p3), .val (.int p4), .val (.int p5), .val (.int p6), .val (.ref a7), .val (.double u8), .second, .unset, .unset] [(.double (FP.l2d ((p3.toInt64) - (w9 - w10))))])) _
    refine XS.goto X0.here hx rfl (pc0 := 27) (pc' := 32) rfl (hb hby d4_27) (by decide) (by decide) ?_
    show Steps p.tables e below (s₁.setTop (mkF m 32 #[.val (.ref a1), .val (.int p2), .val (.int p3), .val (.int p4), .val (.int p5), .val (.int p6), .val (.ref a7), .val (.double u8), .second, .unset, .unset] [(.double (FP.l2d ((p3.toInt64) - (w9 - w10))))])) _
    refine XS.dstore X0.here hx rfl (hb hby d4_32) rfl (l' := #[.val (.ref a1), .val (.int p2), .val (.int p3), .val (.int p4), .val (.int p5), .val (.int p6), .val (.ref a7), .val (.double u8), .second, .val (.double (FP.l2d ((p3.toInt64) - (w9 - w10)))), .second]) rfl ?_
    show Steps p.tables e below (s₁.setTop (mkF m 34 #[.val (.ref a1), .val (.int p2), .val (.int p3), .val (.int p4), .val (.int p5), .val (.int p6), .val (.ref a7), .val (.double u8), .second, .val (.double (FP.l2d ((p3.toInt64) - (w9 - w10)))), .second] [])) _
    refine XS.aloadN X0.here hx rfl (hb hby d4_34) rfl rfl ?_
    show Steps p.tables e below (s₁.setTop (mkF m 35 #[.val (.ref a1), .val (.int p2), .val (.int p3), .val (.int p4), .val (.int p5), .val (.int p6), .val (.ref a7), .val (.double u8), .second, .val (.double (FP.l2d ((p3.toInt64) - (w9 - w10)))), .second] [(.ref a1)])) _
    refine XS.iloadN X0.here hx rfl (hb hby d4_35) rfl ?_
    show Steps p.tables e below (s₁.setTop (mkF m 36 #[.val (.ref a1), .val (.int p2), .val (.int p3), .val (.int p4), .val (.int p5), .val (.int p6), .val (.ref a7), .val (.double u8), .second, .val (.double (FP.l2d ((p3.toInt64) - (w9 - w10)))), .second] [(.int p2), (.ref a1)])) _
    refine XS.iconst X0.here hx rfl (hb hby d4_36) ?_
    show Steps p.tables e below (s₁.setTop (mkF m 37 #[.val (.ref a1), .val (.int p2), .val (.int p3), .val (.int p4), .val (.int p5), .val (.int p6), .val (.ref a7), .val (.double u8), .second, .val (.double (FP.l2d ((p3.toInt64) - (w9 - w10)))), .second] [(.int (1 : Int32)), (.int p2), (.ref a1)])) _
    refine XS.isub X0.here hx rfl (hb hby d4_37) rfl ?_
    show Steps p.tables e below (s₁.setTop (mkF m 38 #[.val (.ref a1), .val (.int p2), .val (.int p3), .val (.int p4), .val (.int p5), .val (.int p6), .val (.ref a7), .val (.double u8), .second, .val (.double (FP.l2d ((p3.toInt64) - (w9 - w10)))), .second] [(.int (p2 - (1 : Int32))), (.ref a1)])) _
    refine X0.daload hx (j := (p2 - (1 : Int32))) (v := (.double w11)) (by rw [e0]; exact Ar_a1.1) (State.isArrayOf_alike hZ.alike Ar_a1.2.1) Ar_a1.2.2 hin38 hat38 (g := (mkF m 38 #[.val (.ref a1), .val (.int p2), .val (.int p3), .val (.int p4), .val (.int p5), .val (.int p6), .val (.ref a7), .val (.double u8), .second, .val (.double (FP.l2d ((p3.toInt64) - (w9 - w10)))), .second] [(.int (p2 - (1 : Int32))), (.ref a1)])) rfl rfl (hb hby d4_38) _ ?_
    show Steps p.tables e below (s₁.setTop (mkF m 39 #[.val (.ref a1), .val (.int p2), .val (.int p3), .val (.int p4), .val (.int p5), .val (.int p6), .val (.ref a7), .val (.double u8), .second, .val (.double (FP.l2d ((p3.toInt64) - (w9 - w10)))), .second] [(.double w11)])) _
    refine XS.dload X0.here hx rfl (hb hby d4_39) rfl ?_
    show Steps p.tables e below (s₁.setTop (mkF m 41 #[.val (.ref a1), .val (.int p2), .val (.int p3), .val (.int p4), .val (.int p5), .val (.int p6), .val (.ref a7), .val (.double u8), .second, .val (.double (FP.l2d ((p3.toInt64) - (w9 - w10)))), .second] [(.double (FP.l2d ((p3.toInt64) - (w9 - w10)))), (.double w11)])) _
    refine XS.dcmpS X0.here hx rfl (hb hby d4_41) rfl rfl ?_
    show Steps p.tables e below (s₁.setTop (mkF m 42 #[.val (.ref a1), .val (.int p2), .val (.int p3), .val (.int p4), .val (.int p5), .val (.int p6), .val (.ref a7), .val (.double u8), .second, .val (.double (FP.l2d ((p3.toInt64) - (w9 - w10)))), .second] [(.int (cmpValue (FP.dcmp w11 (FP.l2d ((p3.toInt64) - (w9 - w10)))) .l))])) _
    refine XS.ifNo X0.here hx rfl (hb hby d4_42) rfl ((if0 _ _).trans (teq hc42).2) ?_
    show Steps p.tables e below (s₁.setTop (mkF m 45 #[.val (.ref a1), .val (.int p2), .val (.int p3), .val (.int p4), .val (.int p5), .val (.int p6), .val (.ref a7), .val (.double u8), .second, .val (.double (FP.l2d ((p3.toInt64) - (w9 - w10)))), .second] [])) _
    refine XS.iconst X0.here hx rfl (hb hby d4_45) ?_
    show Steps p.tables e below (s₁.setTop (mkF m 46 #[.val (.ref a1), .val (.int p2), .val (.int p3), .val (.int p4), .val (.int p5), .val (.int p6), .val (.ref a7), .val (.double u8), .second, .val (.double (FP.l2d ((p3.toInt64) - (w9 - w10)))), .second] [(.int (1 : Int32))])) _
    refine XS.goto X0.here hx rfl (pc0 := 46) (pc' := 50) rfl (hb hby d4_46) (by decide) (by decide) ?_
    show Steps p.tables e below (s₁.setTop (mkF m 50 #[.val (.ref a1), .val (.int p2), .val (.int p3), .val (.int p4), .val (.int p5), .val (.int p6), .val (.ref a7), .val (.double u8), .second, .val (.double (FP.l2d ((p3.toInt64) - (w9 - w10)))), .second] [(.int (1 : Int32))])) _
    exact retN X0 hx (t := .boolean) Bd.returns (by simp) (hb hby d4_50) hr
  · show QP (some (.int (1 : Int32))) h0 n0 _ s₁.heap _
    rw [e0]
    exact ⟨rfl, N0, rfl⟩
theorem rm4 (l : Launch) (Z : State) (a0 : Array Value) (hw : ∀ d ∈ tables_1, d.before a0 Z = true) (ws : List Jvm.Cond) (a1 : Addr) (p2 : Int32) (p3 : Int32) (p4 : Int32) (p5 : Int32) (p6 : Int32) (a7 : Addr) (u8 : UInt64) (w9 : Int64) (cl_a7 : Cell) (w10 : Int64) (w11 : UInt64) (cl_a1 : Cell) (h0 : Heap) (n0 : Nat) (Z0 : n0 ≤ h0.size) (Ar_a7 : Arr Z h0 a7 cl_a7 .long) (hin17 : ¬ (p2 < 0 ∨ cl_a7.slots.size ≤ (p2).toNatClampNeg)) (hat17 : cl_a7.slots[(p2).toNatClampNeg]? = some (.long w9)) (hin23 : ¬ ((p4 - (1 : Int32)) < 0 ∨ cl_a7.slots.size ≤ ((p4 - (1 : Int32))).toNatClampNeg)) (hat23 : cl_a7.slots[((p4 - (1 : Int32))).toNatClampNeg]? = some (.long w10)) (Ar_a1 : Arr Z h0 a1 cl_a1 .double) (hin38 : ¬ ((p2 - (1 : Int32)) < 0 ∨ cl_a1.slots.size ≤ ((p2 - (1 : Int32))).toNatClampNeg)) (hat38 : cl_a1.slots[((p2 - (1 : Int32))).toNatClampNeg]? = some (.double w11)) (nw : Jvm.Free.Fl.NoNaN64 w11) (hy : w11 = if ¬ p2 < p5 ∧ ¬ p6 < p2 then FP.l2d (p3.toInt64 - (w9 - w10)) else u8) :
    MetFree l (⟨"com/example/cycle_by_chance/cyclebychance/model/DemandToDateDrawDownPinLaw", "ok", "([DIIIII[JD)Z"⟩ : MethodName) (head1 (Jvm.Cond.code (⟨"com/example/cycle_by_chance/cyclebychance/model/DemandToDateDrawDownPinLaw", "ok", "([DIIIII[JD)Z"⟩ : MethodName) method_3_code 11 (some .boolean) :: ws) ({ frames := 0, cells := 0, slots := 0, locals := 0 } : Room)) (fun a U => a = #[(.ref a1), (.int p2), (.int p3), (.int p4), (.int p5), (.int p6), (.ref a7), (.double u8)] ∧ Z.Warmed39 U.vm ∧ U.heap = h0) (fun _ _ _ _ _ => True) (fun _ U o U' => ∃ v L, o = .returned v ∧ QP (some (.int (1 : Int32))) h0 n0 v U'.heap L ∧ FrameEnd U o U' L ({ frames := 0, cells := 0, slots := 0, locals := 0 } : Room).cells ({ frames := 0, cells := 0, slots := 0, locals := 0 } : Room).slots) := by
  by_cases c3 : p2 < p5
  · exact rm4_tf l Z a0 hw ws a1 p2 p3 p4 p5 p6 a7 u8 w11 cl_a1 h0 n0 Z0 Ar_a1 hin38 hat38 c3 (dcmpV_eq (hy.trans (if_neg (fun q => q.1 c3))) nw .l)
  · by_cases c9 : p6 < p2
    · exact rm4_ftf l Z a0 hw ws a1 p2 p3 p4 p5 p6 a7 u8 w11 cl_a1 h0 n0 Z0 Ar_a1 hin38 hat38 c3 c9 (dcmpV_eq (hy.trans (if_neg (fun q => q.2 c9))) nw .l)
    · exact rm4_fff l Z a0 hw ws a1 p2 p3 p4 p5 p6 a7 u8 w9 cl_a7 w10 w11 cl_a1 h0 n0 Z0 Ar_a7 hin17 hat17 hin23 hat23 Ar_a1 hin38 hat38 c3 c9 (dcmpV_eq (hy.trans (if_pos ⟨c3, c9⟩)) nw .l)
def xx (d1 d2 d3 d4 : Int32) : Nat → Int64 | 0 => d1.toInt64 | 1 => d2.toInt64 | 2 => d3.toInt64 | _ => d4.toInt64
def PP (d1 d2 d3 d4 : Int32) : Nat → Int64 | 0 => 0 | 1 => d1.toInt64 | 2 => d1.toInt64 + d2.toInt64 | 3 => d1.toInt64 + d2.toInt64 + d3.toInt64 | _ => d1.toInt64 + d2.toInt64 + d3.toInt64 + d4.toInt64
def sent : Nat → UInt64 | 0 => (4602678819172646912 : UInt64) | 1 => (4609434218613702656 : UInt64) | 2 => (4612811918334230528 : UInt64) | _ => (4615063718147915776 : UInt64)
def PL (c : Cell) (P : Nat → Int64) : Prop := c.slots.size = 5 ∧ ∀ j, j < 5 → c.slots[j]? = some (.long (P j))
theorem own_D4 {Z : State} {h : Heap} {b : Addr} {kc : ClassId} {d1 d2 d3 d4 : Int32} {dv : Value} (V : Arv Z h b kc .double (4 : Int32) [(.double (FP.l2d d1.toInt64)), (.double (FP.l2d d2.toInt64)), (.double (FP.l2d d3.toInt64)), (.double (FP.l2d d4.toInt64))] dv) : ∃ c, Arr Z h b c .double ∧ D4 c (xx d1 d2 d3 d4) := by
  obtain ⟨c, A, -, S, -, H, -⟩ := V
  have S5 : c.slots.size = 4 := S
  refine ⟨c, A, S5, fun j hj => ?_⟩
  rw [H j (by omega)]
  match j, hj with
  | 0, _ => rfl
  | 1, _ => rfl
  | 2, _ => rfl
  | 3, _ => rfl
theorem own_C4 {Z : State} {h : Heap} {b : Addr} {kc : ClassId} {dv : Value} (V : Arv Z h b kc .double (4 : Int32) [(.double (4602678819172646912 : UInt64)), (.double (4609434218613702656 : UInt64)), (.double (4612811918334230528 : UInt64)), (.double (4615063718147915776 : UInt64))] dv) : ∃ c, Arr Z h b c .double ∧ CL c sent := by
  obtain ⟨c, A, -, S, -, H, -⟩ := V
  have S5 : c.slots.size = 4 := S
  refine ⟨c, A, S5, fun j hj => ?_⟩
  rw [H j (by omega)]
  match j, hj with
  | 0, _ => rfl
  | 1, _ => rfl
  | 2, _ => rfl
  | 3, _ => rfl
theorem own_P5 {Z : State} {h : Heap} {b : Addr} {kc : ClassId} {d1 d2 d3 d4 : Int32} {dv : Value} (V : Arv Z h b kc .long (5 : Int32) [(.long (0 : Int64)), (.long (d1.toInt64)), (.long ((d1.toInt64) + (d2.toInt64))), (.long (((d1.toInt64) + (d2.toInt64)) + (d3.toInt64))), (.long ((((d1.toInt64) + (d2.toInt64)) + (d3.toInt64)) + (d4.toInt64)))] dv) : ∃ c, Arr Z h b c .long ∧ PL c (PP d1 d2 d3 d4) := by
  obtain ⟨c, A, -, S, -, H, -⟩ := V
  have S5 : c.slots.size = 5 := S
  refine ⟨c, A, S5, fun j hj => ?_⟩
  rw [H j (by omega)]
  match j, hj with
  | 0, _ => rfl
  | 1, _ => rfl
  | 2, _ => rfl
  | 3, _ => rfl
  | 4, _ => rfl
theorem own_xb (d1 d2 d3 d4 : Int32) (j : Nat) : -2147483648 ≤ (xx d1 d2 d3 d4 j).toInt ∧ (xx d1 d2 d3 d4 j).toInt ≤ 2147483648 := by
  have h : ∀ d : Int32, -2147483648 ≤ (d.toInt64).toInt ∧ (d.toInt64).toInt ≤ 2147483648 := fun d => by
    rw [Int32.toInt_toInt64]; have := Int32.toInt_lt d; have := Int32.le_toInt d; omega
  match j with
  | 0 => exact h d1
  | 1 => exact h d2
  | 2 => exact h d3
  | (n + 3) => exact h d4
theorem own_xB (d1 d2 d3 d4 : Int32) (j : Nat) : B53 (xx d1 d2 d3 d4 j) := by have := own_xb d1 d2 d3 d4 j; exact ⟨by omega, by omega⟩
theorem own_PPs (d1 d2 d3 d4 : Int32) (t : Nat) (h1 : 1 ≤ t) (h2 : t ≤ 4) : PP d1 d2 d3 d4 t = PP d1 d2 d3 d4 (t - 1) + xx d1 d2 d3 d4 (t - 1) := by
  have h : t = 1 ∨ t = 2 ∨ t = 3 ∨ t = 4 := by omega
  rcases h with rfl | rfl | rfl | rfl
  · exact (Int64.zero_add _).symm
  · rfl
  · rfl
  · rfl
theorem own_PPb (d1 d2 d3 d4 : Int32) (t : Nat) (h2 : t ≤ 4) : -8589934592 ≤ (PP d1 d2 d3 d4 t).toInt ∧ (PP d1 d2 d3 d4 t).toInt ≤ 8589934592 := by
  have h : ∀ d : Int32, -2147483648 ≤ (d.toInt64).toInt ∧ (d.toInt64).toInt ≤ 2147483648 := fun d => by
    rw [Int32.toInt_toInt64]; have := Int32.toInt_lt d; have := Int32.le_toInt d; omega
  have a1 := h d1
  have a2 := h d2
  have a3 := h d3
  have a4 := h d4
  have s2 := Jvm.Free.XT.add64 (x := d1.toInt64) (y := d2.toInt64) ⟨by omega, by omega⟩
  have s3 := Jvm.Free.XT.add64 (x := d1.toInt64 + d2.toInt64) (y := d3.toInt64) ⟨by omega, by omega⟩
  have s4 := Jvm.Free.XT.add64 (x := d1.toInt64 + d2.toInt64 + d3.toInt64) (y := d4.toInt64) ⟨by omega, by omega⟩
  have h : t = 0 ∨ t = 1 ∨ t = 2 ∨ t = 3 ∨ t = 4 := by omega
  rcases h with rfl | rfl | rfl | rfl | rfl
  · show -8589934592 ≤ (0 : Int64).toInt ∧ (0 : Int64).toInt ≤ 8589934592; decide
  · show -8589934592 ≤ (d1.toInt64).toInt ∧ (d1.toInt64).toInt ≤ 8589934592; omega
  · show -8589934592 ≤ (d1.toInt64 + d2.toInt64).toInt ∧ (d1.toInt64 + d2.toInt64).toInt ≤ 8589934592; omega
  · show -8589934592 ≤ (d1.toInt64 + d2.toInt64 + d3.toInt64).toInt ∧ (d1.toInt64 + d2.toInt64 + d3.toInt64).toInt ≤ 8589934592; omega
  · show -8589934592 ≤ (d1.toInt64 + d2.toInt64 + d3.toInt64 + d4.toInt64).toInt ∧ (d1.toInt64 + d2.toInt64 + d3.toInt64 + d4.toInt64).toInt ≤ 8589934592; omega
theorem own_PPB (d1 d2 d3 d4 : Int32) (a b : Nat) (ha : a ≤ 4) (hb : b ≤ 4) : B53 (PP d1 d2 d3 d4 a - PP d1 d2 d3 d4 b) := by
  have h1 := own_PPb d1 d2 d3 d4 a ha
  have h2 := own_PPb d1 d2 d3 d4 b hb
  have s := Jvm.Free.XT.sub64 (x := PP d1 d2 d3 d4 a) (y := PP d1 d2 d3 d4 b) ⟨by omega, by omega⟩
  exact ⟨by omega, by omega⟩
theorem own_levB (p : Int32) : B53 p.toInt64 := by
  have h := Int32.toInt_lt p
  have h2 := Int32.le_toInt p
  exact ⟨by rw [Int32.toInt_toInt64]; omega, by rw [Int32.toInt_toInt64]; omega⟩
theorem own_FFn (P : Nat → Int64) (lev : Int64) (fr first last : Nat) (j : Nat) : Jvm.Free.Fl.NoNaN64 (FF P lev fr first last sent j) := by
  unfold FF
  by_cases q : first ≤ j + 1 ∧ j + 1 ≤ last
  · rw [if_pos q]; exact nn_w rfl
  · rw [if_neg q]
    match j with
    | 0 => show Jvm.Free.Fl.NoNaN64 (4602678819172646912 : UInt64); unfold Jvm.Free.Fl.NoNaN64; decide
    | 1 => show Jvm.Free.Fl.NoNaN64 (4609434218613702656 : UInt64); unfold Jvm.Free.Fl.NoNaN64; decide
    | 2 => show Jvm.Free.Fl.NoNaN64 (4612811918334230528 : UInt64); unfold Jvm.Free.Fl.NoNaN64; decide
    | (n + 3) => show Jvm.Free.Fl.NoNaN64 (4615063718147915776 : UInt64); unfold Jvm.Free.Fl.NoNaN64; decide
theorem own_hy (P : Nat → Int64) (lev : Int64) (fr first last t : Nat) (h1 : 1 ≤ t) (h2 : t ≤ 4) (hf : first ≤ 8) (hl : last ≤ 8) : FF P lev fr first last sent (t - 1) = if ¬ Int32.ofNat t < Int32.ofNat first ∧ ¬ Int32.ofNat last < Int32.ofNat t then FP.l2d (lev - (P t - P (fr - 1))) else sent (t - 1) := by
  unfold FF
  have e : t - 1 + 1 = t := by omega
  have a := own_ltN (a := t) (b := first) (by omega) hf
  have b := own_ltN (a := last) (b := t) hl (by omega)
  rw [e]
  by_cases q : first ≤ t ∧ t ≤ last
  · rw [if_pos q, if_pos ⟨fun z => by have := a.mp z; omega, fun z => by have := b.mp z; omega⟩]
  · rw [if_neg q, if_neg (fun z => q ⟨by have : ¬ t < first := fun w => z.1 (a.mpr w); omega, by have : ¬ last < t := fun w => z.2 (b.mpr w); omega⟩)]
theorem pn_0 : plainName "com/example/cycle_by_chance/cyclebychance/model/DemandToDateDrawDownPinLaw" = true := by first | (simp [plainName, overriddenIn]; done) | decide +kernel
theorem pd_0_0 : parseMethodDescriptor "([D)V" = some ⟨[(.array .double)], none⟩ := by decide +kernel
theorem pd_0_2 : parseMethodDescriptor "(DIII[D)V" = some ⟨[.double, .int, .int, .int, (.array .double)], none⟩ := by decide +kernel
theorem pd_0_3 : parseMethodDescriptor "([DIIIII[JD)Z" = some ⟨[(.array .double), .int, .int, .int, .int, .int, (.array .long), .double], some .boolean⟩ := by decide +kernel
theorem ef_0 (m : MethodId) (x0 : Int32) (x1 : Int32) (x2 : Int32) (x3 : Int32) (x4 : Int32) (x5 : Int32) : entryFrame m #[(.int x0), (.int x1), (.int x2), (.int x3), (.int x4), (.int x5)] maxLocals = mkF m 0 #[.val (.int x0), .val (.int x1), .val (.int x2), .val (.int x3), .val (.int x4), .val (.int x5), .unset, .unset, .unset, .unset, .unset, .unset, .unset] [] := by first | (simp [entryFrame, mkF, argsToLocals, Value.category, maxLocals]; done) | rfl
set_option maxRecDepth 65536 in
set_option maxHeartbeats 40000000 in
theorem rm0_tffff (l : Launch) (Z : State) (a0 : Array Value) (hw : ∀ d ∈ tables_1, d.before a0 Z = true) (ws : List Jvm.Cond) (p1 : Int32) (p2 : Int32) (p3 : Int32) (p4 : Int32) (p5 : Int32) (p6 : Int32) (fr first last : Nat) (h0 : Heap) (n0 : Nat) (Z0 : n0 ≤ h0.size) (f1 : 1 ≤ fr) (f2 : fr ≤ 4) (f3 : fr ≤ first) (f4 : first ≤ 5) (f5 : last ≤ 4) (hk43 : ((1 : Int32) + (p2 &&& (3 : Int32))) = (Int32.ofNat fr)) (hk53 : ((Int32.ofNat fr) + (((p2.toUInt32 >>> ((2 : Int32) &&& 31).toUInt32).toInt32) &&& (3 : Int32))) = (Int32.ofNat first)) (hc58 : ¬ ((5 : Int32) < (Int32.ofNat first))) (hk72 : ((((p2.toUInt32 >>> ((4 : Int32) &&& 31).toUInt32).toInt32) &&& (7 : Int32)) % (5 : Int32)) = (Int32.ofNat last)) (hq1 : ¬ ((1 : Int32) = (0 : Int32))) :
    MetFree l x (head1 (Jvm.Cond.code x code maxLocals ret :: ws) room_1) (fun a U => a = #[(.int p1), (.int p2), (.int p3), (.int p4), (.int p5), (.int p6)] ∧ Z.Warmed39 U.vm ∧ U.heap = h0) (fun _ _ _ _ _ => True) (fun _ U o U' => ∃ v L, o = .returned v ∧ QL n0 v U'.heap L ∧ FrameEnd U o U' L room_1.cells room_1.slots) := by
  refine MetFree.of_bodySF (plainFor_of_name pn_0) hisR ?_
  intro p e s m args below meth c s₁ Bd hml0 hP hK
  obtain ⟨rfl, hZ, hh⟩ := hP
  have hx := Bd.exec
  have hby := Bd.bytes
  have hml : c.maxLocals = 13 := hml0
  have hown : s.vm.findClass "com/example/cycle_by_chance/cyclebychance/model/DemandToDateDrawDownPinLaw" = some m.cls := findClass_of_methodNamed Bd.named
  have hnm := (name_of_methodNamed Bd.named Bd.method).1
  have X0 : Stand p l e room_1 s m #[(.int p1), (.int p2), (.int p3), (.int p4), (.int p5), (.int p6)] below meth c s₁ [] 0 0 := Stand.of_body Bd
  have e0 : s₁.heap = h0 := by rw [← hh, Bd.state]; rfl
  have N0 := Fr.nil n0
  have pre0 : ∀ t, Steps p.tables e below (s₁.setTop (mkF m 0 #[.val (.int p1), .val (.int p2), .val (.int p3), .val (.int p4), .val (.int p5), .val (.int p6), .unset, .unset, .unset, .unset, .unset, .unset, .unset] [])) t → Steps p.tables e below (s₁.setTop (entryFrame m #[(.int p1), (.int p2), (.int p3), (.int p4), (.int p5), (.int p6)] maxLocals)) t := fun t k => castTop (ef_0 m p1 p2 p3 p4 p5 p6) k
  obtain ⟨T7, h7, k7, X7, e7, E7, A7, st7⟩ := newP X0 hx hZ (hw _ (List.mem_of_getElem? (i := 0) rfl)) e0 (g := (mkF m 1 #[.val (.int p1), .val (.int p2), .val (.int p3), .val (.int p4), .val (.int p5), .val (.int p6), .unset, .unset, .unset, .unset, .unset, .unset, .unset] [(.int (4 : Int32))])) rfl (hb hby at_1) rfl (by decide) (cap := 4) (by decide) (by decide) (by decide) (by decide)
  obtain ⟨b7, g7⟩ : ∃ z, z = h0.size := ⟨_, rfl⟩
  rw [← g7] at A7 st7
  have V_b7 : Arv Z h7 b7 k7 .double (4 : Int32) [(.double (0 : UInt64)), (.double (0 : UInt64)), (.double (0 : UInt64)), (.double (0 : UInt64))] (.double (0 : UInt64)) := (Arv.new A7 (by decide)).pad (pad_rep [] (.double (0 : UInt64)) 4)
  have g_b7 : n0 ≤ b7 := Nat.le_trans Z0 (Nat.le_of_eq g7.symm)
  have sz_b7 : h0.size ≤ b7 := (Nat.le_trans (Keep.refl h0 []).1 (Nat.le_of_eq g7.symm))
  have K7 : Keep h0 h7 [] := (Keep.refl h0 []).ext E7
  obtain ⟨cl_b7_7, Ar_b7, q_b7, S_b7, N_b7, H_b7, G_b7⟩ := V_b7
  have hin7 : ¬ ((0 : Int32) < 0 ∨ cl_b7_7.slots.size ≤ ((0 : Int32)).toNatClampNeg) := inb_of S_b7 ⟨by decide, by decide⟩
  obtain ⟨T8, h8, X8, e8, W8, st8⟩ := stD X7 hx hZ e7 Ar_b7 (j := (0 : Int32)) hin7 (g := (mkF m 7 #[.val (.int p1), .val (.int p2), .val (.int p3), .val (.int p4), .val (.int p5), .val (.int p6), .unset, .unset, .unset, .unset, .unset, .unset, .unset] [(.double (FP.l2d p3.toInt64)), (.int (0 : Int32)), (.ref b7), (.ref b7)])) rfl rfl (hb hby at_7)
  have V_b7_8 := Arv.set Ar_b7 q_b7 S_b7 N_b7 H_b7 G_b7 rfl W8 0 rfl (Nat.le_of_ble_eq_true rfl)
  have K8 : Keep h0 h8 [] := K7.wr W8 (Or.inr sz_b7)
  have N8 := Fr.snoc X8 N0 g_b7
  obtain ⟨cl_b7_12, Ar_b7, q_b7, S_b7, N_b7, H_b7, G_b7⟩ := V_b7_8
  have hin12 : ¬ ((1 : Int32) < 0 ∨ cl_b7_12.slots.size ≤ ((1 : Int32)).toNatClampNeg) := inb_of S_b7 ⟨by decide, by decide⟩
  obtain ⟨T9, h9, X9, e9, W9, st9⟩ := stD X8 hx hZ e8 Ar_b7 (j := (1 : Int32)) hin12 (g := (mkF m 12 #[.val (.int p1), .val (.int p2), .val (.int p3), .val (.int p4), .val (.int p5), .val (.int p6), .unset, .unset, .unset, .unset, .unset, .unset, .unset] [(.double (FP.l2d p4.toInt64)), (.int (1 : Int32)), (.ref b7), (.ref b7)])) rfl rfl (hb hby at_12)
  have V_b7_9 := Arv.set Ar_b7 q_b7 S_b7 N_b7 H_b7 G_b7 rfl W9 1 rfl (Nat.le_of_ble_eq_true rfl)
  have K9 : Keep h0 h9 [] := K8.wr W9 (Or.inr sz_b7)
  have N9 := Fr.snoc X9 N8 g_b7
  obtain ⟨cl_b7_18, Ar_b7, q_b7, S_b7, N_b7, H_b7, G_b7⟩ := V_b7_9
  have hin18 : ¬ ((2 : Int32) < 0 ∨ cl_b7_18.slots.size ≤ ((2 : Int32)).toNatClampNeg) := inb_of S_b7 ⟨by decide, by decide⟩
  obtain ⟨T10, h10, X10, e10, W10, st10⟩ := stD X9 hx hZ e9 Ar_b7 (j := (2 : Int32)) hin18 (g := (mkF m 18 #[.val (.int p1), .val (.int p2), .val (.int p3), .val (.int p4), .val (.int p5), .val (.int p6), .unset, .unset, .unset, .unset, .unset, .unset, .unset] [(.double (FP.l2d p5.toInt64)), (.int (2 : Int32)), (.ref b7), (.ref b7)])) rfl rfl (hb hby at_18)
  have V_b7_10 := Arv.set Ar_b7 q_b7 S_b7 N_b7 H_b7 G_b7 rfl W10 2 rfl (Nat.le_of_ble_eq_true rfl)
  have K10 : Keep h0 h10 [] := K9.wr W10 (Or.inr sz_b7)
  have N10 := Fr.snoc X10 N9 g_b7
  obtain ⟨cl_b7_24, Ar_b7, q_b7, S_b7, N_b7, H_b7, G_b7⟩ := V_b7_10
  have hin24 : ¬ ((3 : Int32) < 0 ∨ cl_b7_24.slots.size ≤ ((3 : Int32)).toNatClampNeg) := inb_of S_b7 ⟨by decide, by decide⟩
  obtain ⟨T11, h11, X11, e11, W11, st11⟩ := stD X10 hx hZ e10 Ar_b7 (j := (3 : Int32)) hin24 (g := (mkF m 24 #[.val (.int p1), .val (.int p2), .val (.int p3), .val (.int p4), .val (.int p5), .val (.int p6), .unset, .unset, .unset, .unset, .unset, .unset, .unset] [(.double (FP.l2d p6.toInt64)), (.int (3 : Int32)), (.ref b7), (.ref b7)])) rfl rfl (hb hby at_24)
  have V_b7_11 := Arv.set Ar_b7 q_b7 S_b7 N_b7 H_b7 G_b7 rfl W11 3 rfl (Nat.le_of_ble_eq_true rfl)
  have K11 : Keep h0 h11 [] := K10.wr W11 (Or.inr sz_b7)
  have N11 := Fr.snoc X11 N10 g_b7
  obtain ⟨T12, h12, X12, e12, E12, A12, D12, -, st12⟩ := newO X11 hx hZ hown (hw _ (List.mem_of_getElem? (i := 1) rfl)) (hw _ (List.mem_of_getElem? (i := 2) rfl)) (hw _ (List.mem_of_getElem? (i := 3) rfl)) e11 (g := (mkF m 27 #[.val (.int p1), .val (.int p2), .val (.int p3), .val (.int p4), .val (.int p5), .val (.int p6), .val (.ref b7), .unset, .unset, .unset, .unset, .unset, .unset] [])) rfl (hb hby at_27) (by decide) (by decide)
  obtain ⟨b12, g12⟩ : ∃ z, z = h11.size := ⟨_, rfl⟩
  rw [← g12] at A12 D12 st12
  have F_demand_b12 : Fld Z h12 b12 "com/example/cycle_by_chance/cyclebychance/model/DemandToDate" "demand" "[D" .null := D12 (Or.inr (hw _ (List.mem_of_getElem? (i := 11) rfl))) (ty := (.array .double)) (by decide)
  have F_through_b12 : Fld Z h12 b12 "com/example/cycle_by_chance/cyclebychance/model/DemandToDate" "through" "[D" .null := D12 (Or.inr (hw _ (List.mem_of_getElem? (i := 13) rfl))) (ty := (.array .double)) (by decide)
  have F_summed_b12 : Fld Z h12 b12 "com/example/cycle_by_chance/cyclebychance/model/DemandToDate" "summed" "[D" .null := D12 (Or.inr (hw _ (List.mem_of_getElem? (i := 15) rfl))) (ty := (.array .double)) (by decide)
  have F_above_b12 : Fld Z h12 b12 "com/example/cycle_by_chance/cyclebychance/model/DemandToDate" "above" "[I" .null := D12 (Or.inr (hw _ (List.mem_of_getElem? (i := 18) rfl))) (ty := (.array .int)) (by decide)
  have E_b12 := A12
  have g_b12 : n0 ≤ b12 := Nat.le_trans (Nat.le_trans (Nat.le_trans (Nat.le_trans (Nat.le_trans (Nat.le_trans Z0 E7.1) (Keep.of_wr W8).1) (Keep.of_wr W9).1) (Keep.of_wr W10).1) (Keep.of_wr W11).1) (Nat.le_of_eq g12.symm)
  have sz_b12 : h0.size ≤ b12 := (Nat.le_trans K11.1 (Nat.le_of_eq g12.symm))
  have K12 : Keep h0 h12 [] := K11.ext E12
  have VD : Arv Z h11 b7 k7 .double (4 : Int32) [(.double (FP.l2d p3.toInt64)), (.double (FP.l2d p4.toInt64)), (.double (FP.l2d p5.toInt64)), (.double (FP.l2d p6.toInt64))] (.double (0 : UInt64)) := V_b7_11
  obtain ⟨clD, ArD, DD⟩ := own_D4 VD
  have nD : b7 ≠ b12 := Nat.ne_of_lt (Nat.lt_of_lt_of_eq ArD.lt g12.symm)
  have Z12 : n0 ≤ h12.size := Nat.le_trans Z0 K12.1
  obtain ⟨_, _, ⟨T13, L13, k13, n13⟩, -, X13, ⟨Lc13, hQ13, l13, y13, z13⟩, st13⟩ := X12.specialBack hx (y := (⟨"com/example/cycle_by_chance/cyclebychance/model/DemandToDate", "<init>", "([D)V"⟩ : MethodName)) rfl hown (mvT hZ (hw _ (List.mem_of_getElem? (i := 4) rfl))) (mvT hZ (hw _ (List.mem_of_getElem? (i := 5) rfl))) (mvT hZ (hw _ (List.mem_of_getElem? (i := 6) rfl))) (by decide) (backOf (W := 1) (rm1 l Z a0 hw [] b12 b7 (xx p3 p4 p5 p6) _ clD _ _ _ h12 n0 Z12 E_b12 F_demand_b12 F_through_b12 F_summed_b12 F_above_b12 g_b12 (ArD.ext E12) DD (own_xb p3 p4 p5 p6) nD) hZ (hw _ (List.mem_of_getElem? (i := 6) rfl)) (hw _ (List.mem_of_getElem? (i := 3) rfl)) (by decide) (by decide)) (g := (mkF m 33 #[.val (.int p1), .val (.int p2), .val (.int p3), .val (.int p4), .val (.int p5), .val (.int p6), .val (.ref b7), .unset, .unset, .unset, .unset, .unset, .unset] [(.ref b7), (.ref b12), (.ref b12)])) rfl (by rw [hml]; rfl) (Steps.refl _) (a := b12) (argsL := [(.ref b7)]) (rest := [(.ref b12)]) (lenOf pd_0_0 rfl) rfl (by show 2 * 0 + _ ≤ _; exact Nat.le_of_eq rfl) (hb hby at_33) (fun _ _ => ⟨rfl, e12, (by decide : 2 + 3 ≤ _), (by decide : 8 + 15 ≤ _)⟩)
  dsimp only [Pt.U, Pt.locs, Pt.cells, Pt.slots] at X13 l13 y13 z13 st13 hQ13
  subst l13 y13 z13
  obtain ⟨rfl, N13q, K13c, E13, F13⟩ := hQ13
  have N13 := Fr.app N11 N13q
  obtain ⟨T14, h14, k14, X14, e14, E14, A14, st14⟩ := newP X13 hx hZ (hw _ (List.mem_of_getElem? (i := 0) rfl)) rfl (g := (mkF m 75 #[.val (.int p1), .val (.int p2), .val (.int p3), .val (.int p4), .val (.int p5), .val (.int p6), .val (.ref b7), .val (.ref b12), .val (.int (Int32.ofNat fr)), .val (.int (Int32.ofNat first)), .val (.int (Int32.ofNat last)), .unset, .unset] [(.int (4 : Int32))])) rfl (hb hby at_75) rfl (by decide) (cap := 4) (by decide) (by decide) (by decide) (by decide)
  obtain ⟨b14, g14⟩ : ∃ z, z = T13.heap.size := ⟨_, rfl⟩
  rw [← g14] at A14 st14
  have V_b14 : Arv Z h14 b14 k14 .double (4 : Int32) [(.double (0 : UInt64)), (.double (0 : UInt64)), (.double (0 : UInt64)), (.double (0 : UInt64))] (.double (0 : UInt64)) := (Arv.new A14 (by decide)).pad (pad_rep [] (.double (0 : UInt64)) 4)
  have g_b14 : n0 ≤ b14 := Nat.le_trans (Nat.le_trans (Nat.le_trans (Nat.le_trans (Nat.le_trans (Nat.le_trans (Nat.le_trans (Nat.le_trans Z0 E7.1) (Keep.of_wr W8).1) (Keep.of_wr W9).1) (Keep.of_wr W10).1) (Keep.of_wr W11).1) E12.1) K13c.1) (Nat.le_of_eq g14.symm)
  have sz_b14 : h0.size ≤ b14 := (Nat.le_trans (K12.trans K13c (fun y hy => Or.inr (by rw [List.mem_singleton] at hy; subst hy; exact sz_b12))).1 (Nat.le_of_eq g14.symm))
  have K14 : Keep h0 h14 [] := (K12.trans K13c (fun y hy => Or.inr (by rw [List.mem_singleton] at hy; subst hy; exact sz_b12))).ext E14
  obtain ⟨cl_b14_82, Ar_b14, q_b14, S_b14, N_b14, H_b14, G_b14⟩ := V_b14
  have hin82 : ¬ ((0 : Int32) < 0 ∨ cl_b14_82.slots.size ≤ ((0 : Int32)).toNatClampNeg) := inb_of S_b14 ⟨by decide, by decide⟩
  obtain ⟨T15, h15, X15, e15, W15, st15⟩ := stD X14 hx hZ e14 Ar_b14 (j := (0 : Int32)) hin82 (g := (mkF m 82 #[.val (.int p1), .val (.int p2), .val (.int p3), .val (.int p4), .val (.int p5), .val (.int p6), .val (.ref b7), .val (.ref b12), .val (.int (Int32.ofNat fr)), .val (.int (Int32.ofNat first)), .val (.int (Int32.ofNat last)), .unset, .unset] [(.double (4602678819172646912 : UInt64)), (.int (0 : Int32)), (.ref b14), (.ref b14)])) rfl rfl (hb hby at_82)
  have V_b14_15 := Arv.set Ar_b14 q_b14 S_b14 N_b14 H_b14 G_b14 rfl W15 0 rfl (Nat.le_of_ble_eq_true rfl)
  have K15 : Keep h0 h15 [] := K14.wr W15 (Or.inr sz_b14)
  have N15 := Fr.snoc X15 N13 g_b14
  obtain ⟨cl_b14_88, Ar_b14, q_b14, S_b14, N_b14, H_b14, G_b14⟩ := V_b14_15
  have hin88 : ¬ ((1 : Int32) < 0 ∨ cl_b14_88.slots.size ≤ ((1 : Int32)).toNatClampNeg) := inb_of S_b14 ⟨by decide, by decide⟩
  obtain ⟨T16, h16, X16, e16, W16, st16⟩ := stD X15 hx hZ e15 Ar_b14 (j := (1 : Int32)) hin88 (g := (mkF m 88 #[.val (.int p1), .val (.int p2), .val (.int p3), .val (.int p4), .val (.int p5), .val (.int p6), .val (.ref b7), .val (.ref b12), .val (.int (Int32.ofNat fr)), .val (.int (Int32.ofNat first)), .val (.int (Int32.ofNat last)), .unset, .unset] [(.double (4609434218613702656 : UInt64)), (.int (1 : Int32)), (.ref b14), (.ref b14)])) rfl rfl (hb hby at_88)
  have V_b14_16 := Arv.set Ar_b14 q_b14 S_b14 N_b14 H_b14 G_b14 rfl W16 1 rfl (Nat.le_of_ble_eq_true rfl)
  have K16 : Keep h0 h16 [] := K15.wr W16 (Or.inr sz_b14)
  have N16 := Fr.snoc X16 N15 g_b14
  obtain ⟨cl_b14_94, Ar_b14, q_b14, S_b14, N_b14, H_b14, G_b14⟩ := V_b14_16
  have hin94 : ¬ ((2 : Int32) < 0 ∨ cl_b14_94.slots.size ≤ ((2 : Int32)).toNatClampNeg) := inb_of S_b14 ⟨by decide, by decide⟩
  obtain ⟨T17, h17, X17, e17, W17, st17⟩ := stD X16 hx hZ e16 Ar_b14 (j := (2 : Int32)) hin94 (g := (mkF m 94 #[.val (.int p1), .val (.int p2), .val (.int p3), .val (.int p4), .val (.int p5), .val (.int p6), .val (.ref b7), .val (.ref b12), .val (.int (Int32.ofNat fr)), .val (.int (Int32.ofNat first)), .val (.int (Int32.ofNat last)), .unset, .unset] [(.double (4612811918334230528 : UInt64)), (.int (2 : Int32)), (.ref b14), (.ref b14)])) rfl rfl (hb hby at_94)
  have V_b14_17 := Arv.set Ar_b14 q_b14 S_b14 N_b14 H_b14 G_b14 rfl W17 2 rfl (Nat.le_of_ble_eq_true rfl)
  have K17 : Keep h0 h17 [] := K16.wr W17 (Or.inr sz_b14)
  have N17 := Fr.snoc X17 N16 g_b14
  obtain ⟨cl_b14_100, Ar_b14, q_b14, S_b14, N_b14, H_b14, G_b14⟩ := V_b14_17
  have hin100 : ¬ ((3 : Int32) < 0 ∨ cl_b14_100.slots.size ≤ ((3 : Int32)).toNatClampNeg) := inb_of S_b14 ⟨by decide, by decide⟩
  obtain ⟨T18, h18, X18, e18, W18, st18⟩ := stD X17 hx hZ e17 Ar_b14 (j := (3 : Int32)) hin100 (g := (mkF m 100 #[.val (.int p1), .val (.int p2), .val (.int p3), .val (.int p4), .val (.int p5), .val (.int p6), .val (.ref b7), .val (.ref b12), .val (.int (Int32.ofNat fr)), .val (.int (Int32.ofNat first)), .val (.int (Int32.ofNat last)), .unset, .unset] [(.double (4615063718147915776 : UInt64)), (.int (3 : Int32)), (.ref b14), (.ref b14)])) rfl rfl (hb hby at_100)
  have V_b14_18 := Arv.set Ar_b14 q_b14 S_b14 N_b14 H_b14 G_b14 rfl W18 3 rfl (Nat.le_of_ble_eq_true rfl)
  have K18 : Keep h0 h18 [] := K17.wr W18 (Or.inr sz_b14)
  have N18 := Fr.snoc X18 N17 g_b14
  have VC : Arv Z h18 b14 k14 .double (4 : Int32) [(.double (4602678819172646912 : UInt64)), (.double (4609434218613702656 : UInt64)), (.double (4612811918334230528 : UInt64)), (.double (4615063718147915776 : UInt64))] (.double (0 : UInt64)) := V_b14_18
  obtain ⟨clC, ArC, CC⟩ := own_C4 VC
  have nb12 : b12 ≠ b14 := Nat.ne_of_lt (Nat.lt_of_lt_of_eq E13.lt g14.symm)
  have AD13 := own_arrkeep (ArD.ext E12) K13c (fun q => nD (List.mem_singleton.mp q))
  have nb7 : b7 ≠ b14 := Nat.ne_of_lt (Nat.lt_of_lt_of_eq AD13.lt g14.symm)
  have AD18 := ((((AD13.ext E14).other W15 nb7).other W16 nb7).other W17 nb7).other W18 nb7
  have FD18 := ((((F13.ext E14).other W15 (Or.inl nb12)).other W16 (Or.inl nb12)).other W17 (Or.inl nb12)).other W18 (Or.inl nb12)
  have Z18 : n0 ≤ h18.size := Nat.le_trans Z0 K18.1
  obtain ⟨cq19, kq19, q19a, q19b, q19c⟩ := isOf hZ e18 ((((((E_b12.keep K13c).ext E14).wr W15).wr W16).wr W17).wr W18)
  obtain ⟨_, _, ⟨T19, L19, k19, n19⟩, -, X19, ⟨Lc19, hQ19, l19, y19, z19⟩, st19⟩ := X18.virtualBack hx (y := (⟨"com/example/cycle_by_chance/cyclebychance/model/DemandToDate", "drawDown", "(DIII[D)V"⟩ : MethodName)) (z := (⟨"com/example/cycle_by_chance/cyclebychance/model/DemandToDate", "drawDown", "(DIII[D)V"⟩ : MethodName)) hown (mvT hZ (hw _ (List.mem_of_getElem? (i := 23) rfl))) (mvT hZ (hw _ (List.mem_of_getElem? (i := 24) rfl))) (notFace_of_selects (args := #[]) (mvT hZ (hw _ (List.mem_of_getElem? (i := 26) rfl)))) (mvT hZ (hw _ (List.mem_of_getElem? (i := 26) rfl))) (mvT hZ (hw _ (List.mem_of_getElem? (i := 25) rfl))) (by decide) (backOf (W := 0) (rm3 l Z a0 hw [] b12 p1.toInt64 fr first last b14 b7 (xx p3 p4 p5 p6) (PP p3 p4 p5 p6) sent clD clC h18 n0 Z18 DD (own_PPs p3 p4 p5 p6) (own_PPB p3 p4 p5 p6) (own_xB p3 p4 p5 p6) (own_levB p1) f1 f2 f3 f4 f5 g_b14 nb12 nb7 FD18 AD18 ArC CC) hZ (hw _ (List.mem_of_getElem? (i := 27) rfl)) (hw _ (List.mem_of_getElem? (i := 3) rfl)) (by decide) (by decide)) q19a q19c (g := (mkF m 115 #[.val (.int p1), .val (.int p2), .val (.int p3), .val (.int p4), .val (.int p5), .val (.int p6), .val (.ref b7), .val (.ref b12), .val (.int (Int32.ofNat fr)), .val (.int (Int32.ofNat first)), .val (.int (Int32.ofNat last)), .val (.ref b14), .unset] [(.ref b14), (.int (Int32.ofNat last)), (.int (Int32.ofNat first)), (.int (Int32.ofNat fr)), (.double (FP.l2d p1.toInt64)), (.ref b12)])) rfl (by rw [hml]; rfl) (Steps.refl _) (argsL := [(.double (FP.l2d p1.toInt64)), (.int (Int32.ofNat fr)), (.int (Int32.ofNat first)), (.int (Int32.ofNat last)), (.ref b14)]) (rest := []) (lenOf pd_0_2 rfl) rfl (by show 2 * 0 + _ ≤ _; exact Nat.le_of_eq rfl) (hb hby at_115) (fun _ _ => ⟨rfl, e18, (by decide : 6 + 0 ≤ _), (by decide : 27 + 0 ≤ _)⟩)
  dsimp only [Pt.U, Pt.locs, Pt.cells, Pt.slots] at X19 l19 y19 z19 st19 hQ19
  subst l19 y19 z19
  obtain ⟨rfl, N19q, K19c, clC2, ArC2, CLc⟩ := hQ19
  have N19 := Fr.app N18 N19q
  obtain ⟨T20, h20, k20, X20, e20, E20, A20, st20⟩ := newP X19 hx hZ (hw _ (List.mem_of_getElem? (i := 28) rfl)) rfl (g := (mkF m 119 #[.val (.int p1), .val (.int p2), .val (.int p3), .val (.int p4), .val (.int p5), .val (.int p6), .val (.ref b7), .val (.ref b12), .val (.int (Int32.ofNat fr)), .val (.int (Int32.ofNat first)), .val (.int (Int32.ofNat last)), .val (.ref b14), .unset] [(.int (5 : Int32))])) rfl (hb hby at_119) rfl (by decide) (cap := 5) (by decide) (by decide) (by decide) (by decide)
  obtain ⟨b20, g20⟩ : ∃ z, z = T19.heap.size := ⟨_, rfl⟩
  rw [← g20] at A20 st20
  have V_b20 : Arv Z h20 b20 k20 .long (5 : Int32) [(.long (0 : Int64)), (.long (0 : Int64)), (.long (0 : Int64)), (.long (0 : Int64)), (.long (0 : Int64))] (.long (0 : Int64)) := (Arv.new A20 (by decide)).pad (pad_rep [] (.long (0 : Int64)) 5)
  have g_b20 : n0 ≤ b20 := Nat.le_trans (Nat.le_trans (Nat.le_trans (Nat.le_trans (Nat.le_trans (Nat.le_trans (Nat.le_trans (Nat.le_trans (Nat.le_trans (Nat.le_trans (Nat.le_trans (Nat.le_trans (Nat.le_trans (Nat.le_trans Z0 E7.1) (Keep.of_wr W8).1) (Keep.of_wr W9).1) (Keep.of_wr W10).1) (Keep.of_wr W11).1) E12.1) K13c.1) E14.1) (Keep.of_wr W15).1) (Keep.of_wr W16).1) (Keep.of_wr W17).1) (Keep.of_wr W18).1) K19c.1) (Nat.le_of_eq g20.symm)
  have sz_b20 : h0.size ≤ b20 := (Nat.le_trans (K18.trans K19c (fun y hy => Or.inr (by rw [List.mem_singleton] at hy; subst hy; exact sz_b14))).1 (Nat.le_of_eq g20.symm))
  have K20 : Keep h0 h20 [] := (K18.trans K19c (fun y hy => Or.inr (by rw [List.mem_singleton] at hy; subst hy; exact sz_b14))).ext E20
  obtain ⟨cl_b20_124, Ar_b20, q_b20, S_b20, N_b20, H_b20, G_b20⟩ := V_b20
  have hin124 : ¬ ((0 : Int32) < 0 ∨ cl_b20_124.slots.size ≤ ((0 : Int32)).toNatClampNeg) := inb_of S_b20 ⟨by decide, by decide⟩
  obtain ⟨T21, h21, X21, e21, W21, st21⟩ := stJ X20 hx hZ e20 Ar_b20 (j := (0 : Int32)) hin124 (g := (mkF m 124 #[.val (.int p1), .val (.int p2), .val (.int p3), .val (.int p4), .val (.int p5), .val (.int p6), .val (.ref b7), .val (.ref b12), .val (.int (Int32.ofNat fr)), .val (.int (Int32.ofNat first)), .val (.int (Int32.ofNat last)), .val (.ref b14), .unset] [(.long (0 : Int64)), (.int (0 : Int32)), (.ref b20), (.ref b20)])) rfl rfl (hb hby at_124)
  have V_b20_21 := Arv.set Ar_b20 q_b20 S_b20 N_b20 H_b20 G_b20 rfl W21 0 rfl (Nat.le_of_ble_eq_true rfl)
  have K21 : Keep h0 h21 [] := K20.wr W21 (Or.inr sz_b20)
  have N21 := Fr.snoc X21 N19 g_b20
  obtain ⟨cl_b20_129, Ar_b20, q_b20, S_b20, N_b20, H_b20, G_b20⟩ := V_b20_21
  have hin129 : ¬ ((1 : Int32) < 0 ∨ cl_b20_129.slots.size ≤ ((1 : Int32)).toNatClampNeg) := inb_of S_b20 ⟨by decide, by decide⟩
  obtain ⟨T22, h22, X22, e22, W22, st22⟩ := stJ X21 hx hZ e21 Ar_b20 (j := (1 : Int32)) hin129 (g := (mkF m 129 #[.val (.int p1), .val (.int p2), .val (.int p3), .val (.int p4), .val (.int p5), .val (.int p6), .val (.ref b7), .val (.ref b12), .val (.int (Int32.ofNat fr)), .val (.int (Int32.ofNat first)), .val (.int (Int32.ofNat last)), .val (.ref b14), .unset] [(.long (p3.toInt64)), (.int (1 : Int32)), (.ref b20), (.ref b20)])) rfl rfl (hb hby at_129)
  have V_b20_22 := Arv.set Ar_b20 q_b20 S_b20 N_b20 H_b20 G_b20 rfl W22 1 rfl (Nat.le_of_ble_eq_true rfl)
  have K22 : Keep h0 h22 [] := K21.wr W22 (Or.inr sz_b20)
  have N22 := Fr.snoc X22 N21 g_b20
  obtain ⟨cl_b20_137, Ar_b20, q_b20, S_b20, N_b20, H_b20, G_b20⟩ := V_b20_22
  have hin137 : ¬ ((2 : Int32) < 0 ∨ cl_b20_137.slots.size ≤ ((2 : Int32)).toNatClampNeg) := inb_of S_b20 ⟨by decide, by decide⟩
  obtain ⟨T23, h23, X23, e23, W23, st23⟩ := stJ X22 hx hZ e22 Ar_b20 (j := (2 : Int32)) hin137 (g := (mkF m 137 #[.val (.int p1), .val (.int p2), .val (.int p3), .val (.int p4), .val (.int p5), .val (.int p6), .val (.ref b7), .val (.ref b12), .val (.int (Int32.ofNat fr)), .val (.int (Int32.ofNat first)), .val (.int (Int32.ofNat last)), .val (.ref b14), .unset] [(.long ((p3.toInt64) + (p4.toInt64))), (.int (2 : Int32)), (.ref b20), (.ref b20)])) rfl rfl (hb hby at_137)
  have V_b20_23 := Arv.set Ar_b20 q_b20 S_b20 N_b20 H_b20 G_b20 rfl W23 2 rfl (Nat.le_of_ble_eq_true rfl)
  have K23 : Keep h0 h23 [] := K22.wr W23 (Or.inr sz_b20)
  have N23 := Fr.snoc X23 N22 g_b20
  obtain ⟨cl_b20_149, Ar_b20, q_b20, S_b20, N_b20, H_b20, G_b20⟩ := V_b20_23
  have hin149 : ¬ ((3 : Int32) < 0 ∨ cl_b20_149.slots.size ≤ ((3 : Int32)).toNatClampNeg) := inb_of S_b20 ⟨by decide, by decide⟩
  obtain ⟨T24, h24, X24, e24, W24, st24⟩ := stJ X23 hx hZ e23 Ar_b20 (j := (3 : Int32)) hin149 (g := (mkF m 149 #[.val (.int p1), .val (.int p2), .val (.int p3), .val (.int p4), .val (.int p5), .val (.int p6), .val (.ref b7), .val (.ref b12), .val (.int (Int32.ofNat fr)), .val (.int (Int32.ofNat first)), .val (.int (Int32.ofNat last)), .val (.ref b14), .unset] [(.long (((p3.toInt64) + (p4.toInt64)) + (p5.toInt64))), (.int (3 : Int32)), (.ref b20), (.ref b20)])) rfl rfl (hb hby at_149)
  have V_b20_24 := Arv.set Ar_b20 q_b20 S_b20 N_b20 H_b20 G_b20 rfl W24 3 rfl (Nat.le_of_ble_eq_true rfl)
  have K24 : Keep h0 h24 [] := K23.wr W24 (Or.inr sz_b20)
  have N24 := Fr.snoc X24 N23 g_b20
  obtain ⟨cl_b20_165, Ar_b20, q_b20, S_b20, N_b20, H_b20, G_b20⟩ := V_b20_24
  have hin165 : ¬ ((4 : Int32) < 0 ∨ cl_b20_165.slots.size ≤ ((4 : Int32)).toNatClampNeg) := inb_of S_b20 ⟨by decide, by decide⟩
  obtain ⟨T25, h25, X25, e25, W25, st25⟩ := stJ X24 hx hZ e24 Ar_b20 (j := (4 : Int32)) hin165 (g := (mkF m 165 #[.val (.int p1), .val (.int p2), .val (.int p3), .val (.int p4), .val (.int p5), .val (.int p6), .val (.ref b7), .val (.ref b12), .val (.int (Int32.ofNat fr)), .val (.int (Int32.ofNat first)), .val (.int (Int32.ofNat last)), .val (.ref b14), .unset] [(.long ((((p3.toInt64) + (p4.toInt64)) + (p5.toInt64)) + (p6.toInt64))), (.int (4 : Int32)), (.ref b20), (.ref b20)])) rfl rfl (hb hby at_165)
  have V_b20_25 := Arv.set Ar_b20 q_b20 S_b20 N_b20 H_b20 G_b20 rfl W25 4 rfl (Nat.le_of_ble_eq_true rfl)
  have K25 : Keep h0 h25 [] := K24.wr W25 (Or.inr sz_b20)
  have N25 := Fr.snoc X25 N24 g_b20
  have VP : Arv Z h25 b20 k20 .long (5 : Int32) [(.long (0 : Int64)), (.long (p3.toInt64)), (.long ((p3.toInt64) + (p4.toInt64))), (.long (((p3.toInt64) + (p4.toInt64)) + (p5.toInt64))), (.long ((((p3.toInt64) + (p4.toInt64)) + (p5.toInt64)) + (p6.toInt64)))] (.long (0 : Int64)) := V_b20_25
  obtain ⟨clP, ArP25, PLp⟩ := own_P5 VP
  have nb20 : b14 ≠ b20 := Nat.ne_of_lt (Nat.lt_of_lt_of_eq ArC2.lt g20.symm)
  have C25 := (((((ArC2.ext E20).other W21 nb20).other W22 nb20).other W23 nb20).other W24 nb20).other W25 nb20
  have Z25 : n0 ≤ h25.size := Nat.le_trans Z0 K25.1
  obtain ⟨j1, j2, -⟩ := own_t f1 f2
  have in23 : ¬ ((Int32.ofNat fr - (1 : Int32)) < 0 ∨ clP.slots.size ≤ ((Int32.ofNat fr - (1 : Int32))).toNatClampNeg) := fun q => q.elim j2 (fun q => by rw [PLp.1, j1] at q; omega)
  have at23 : clP.slots[((Int32.ofNat fr - (1 : Int32))).toNatClampNeg]? = some (.long (PP p3 p4 p5 p6 (fr - 1))) := by rw [j1]; exact PLp.2 (fr - 1) (by omega)
  obtain ⟨_, _, ⟨T26, L26, k26, n26⟩, -, X26, ⟨Lc26, hQ26, l26, y26, z26⟩, st26⟩ := Jvm.LawKit.callS X25 hx (y := (⟨"com/example/cycle_by_chance/cyclebychance/model/DemandToDateDrawDownPinLaw", "ok", "([DIIIII[JD)Z"⟩ : MethodName)) hown (mvT hZ (hw _ (List.mem_of_getElem? (i := 29) rfl))) (mvT hZ (hw _ (List.mem_of_getElem? (i := 30) rfl))) (mvT hZ (hw _ (List.mem_of_getElem? (i := 31) rfl))) (mvT hZ (hw _ (List.mem_of_getElem? (i := 32) rfl))) (by decide) (backOf (W := 0) (rm4 l Z a0 hw [] b14 (1 : Int32) p1 (Int32.ofNat fr) (Int32.ofNat first) (Int32.ofNat last) b20 (4602678819172646912 : UInt64) (PP p3 p4 p5 p6 1) clP (PP p3 p4 p5 p6 (fr - 1)) (FF (PP p3 p4 p5 p6) p1.toInt64 fr first last sent 0) clC2 h25 n0 Z25 ArP25 (fun q => q.elim (by decide) (fun q => by rw [PLp.1] at q; exact absurd q (by decide))) (PLp.2 1 (by decide)) in23 at23 C25 (fun q => q.elim (by decide) (fun q => by rw [CLc.1] at q; exact absurd q (by decide))) (CLc.2 0 (by decide)) (own_FFn _ _ _ _ _ _) (own_hy (PP p3 p4 p5 p6) p1.toInt64 fr first last 1 (by decide) (by decide) (by omega) (by omega))) hZ (hw _ (List.mem_of_getElem? (i := 32) rfl)) (hw _ (List.mem_of_getElem? (i := 31) rfl)) (by decide) (by decide)) (g := (mkF m 183 #[.val (.int p1), .val (.int p2), .val (.int p3), .val (.int p4), .val (.int p5), .val (.int p6), .val (.ref b7), .val (.ref b12), .val (.int (Int32.ofNat fr)), .val (.int (Int32.ofNat first)), .val (.int (Int32.ofNat last)), .val (.ref b14), .val (.ref b20)] [(.double (4602678819172646912 : UInt64)), (.ref b20), (.int (Int32.ofNat last)), (.int (Int32.ofNat first)), (.int (Int32.ofNat fr)), (.int p1), (.int (1 : Int32)), (.ref b14)])) rfl (by rw [hml]; rfl) (argsL := [(.ref b14), (.int (1 : Int32)), (.int p1), (.int (Int32.ofNat fr)), (.int (Int32.ofNat first)), (.int (Int32.ofNat last)), (.ref b20), (.double (4602678819172646912 : UInt64))]) (rest := []) (lenOf pd_0_3 rfl) rfl (by show 2 * 0 + _ ≤ _; exact Nat.le_of_eq rfl) (hb hby at_183) (fun _ _ => ⟨rfl, e25, (by decide : 7 + 0 ≤ _), (by decide : 32 + 0 ≤ _)⟩)
  dsimp only [Pt.U, Pt.locs, Pt.cells, Pt.slots] at X26 l26 y26 z26 st26 hQ26
  subst l26 y26 z26
  obtain ⟨rfl, N26q, eh26⟩ := hQ26
  have Z26 : n0 ≤ T26.heap.size := by rw [eh26]; exact Z25
  have ArP26 : Arr Z T26.heap b20 clP .long := by rw [eh26]; exact ArP25
  have C26 : Arr Z T26.heap b14 clC2 .double := by rw [eh26]; exact C25
  have N26 := Fr.app N25 N26q
  obtain ⟨_, _, ⟨T27, L27, k27, n27⟩, -, X27, ⟨Lc27, hQ27, l27, y27, z27⟩, st27⟩ := Jvm.LawKit.callS X26 hx (y := (⟨"com/example/cycle_by_chance/cyclebychance/model/DemandToDateDrawDownPinLaw", "ok", "([DIIIII[JD)Z"⟩ : MethodName)) hown (mvT hZ (hw _ (List.mem_of_getElem? (i := 29) rfl))) (mvT hZ (hw _ (List.mem_of_getElem? (i := 30) rfl))) (mvT hZ (hw _ (List.mem_of_getElem? (i := 31) rfl))) (mvT hZ (hw _ (List.mem_of_getElem? (i := 32) rfl))) (by decide) (backOf (W := 0) (rm4 l Z a0 hw [] b14 (2 : Int32) p1 (Int32.ofNat fr) (Int32.ofNat first) (Int32.ofNat last) b20 (4609434218613702656 : UInt64) (PP p3 p4 p5 p6 2) clP (PP p3 p4 p5 p6 (fr - 1)) (FF (PP p3 p4 p5 p6) p1.toInt64 fr first last sent 1) clC2 T26.heap n0 Z26 ArP26 (fun q => q.elim (by decide) (fun q => by rw [PLp.1] at q; exact absurd q (by decide))) (PLp.2 2 (by decide)) in23 at23 C26 (fun q => q.elim (by decide) (fun q => by rw [CLc.1] at q; exact absurd q (by decide))) (CLc.2 1 (by decide)) (own_FFn _ _ _ _ _ _) (own_hy (PP p3 p4 p5 p6) p1.toInt64 fr first last 2 (by decide) (by decide) (by omega) (by omega))) hZ (hw _ (List.mem_of_getElem? (i := 32) rfl)) (hw _ (List.mem_of_getElem? (i := 31) rfl)) (by decide) (by decide)) (g := (mkF m 204 #[.val (.int p1), .val (.int p2), .val (.int p3), .val (.int p4), .val (.int p5), .val (.int p6), .val (.ref b7), .val (.ref b12), .val (.int (Int32.ofNat fr)), .val (.int (Int32.ofNat first)), .val (.int (Int32.ofNat last)), .val (.ref b14), .val (.ref b20)] [(.double (4609434218613702656 : UInt64)), (.ref b20), (.int (Int32.ofNat last)), (.int (Int32.ofNat first)), (.int (Int32.ofNat fr)), (.int p1), (.int (2 : Int32)), (.ref b14)])) rfl (by rw [hml]; rfl) (argsL := [(.ref b14), (.int (2 : Int32)), (.int p1), (.int (Int32.ofNat fr)), (.int (Int32.ofNat first)), (.int (Int32.ofNat last)), (.ref b20), (.double (4609434218613702656 : UInt64))]) (rest := []) (lenOf pd_0_3 rfl) rfl (by show 2 * 0 + _ ≤ _; exact Nat.le_of_eq rfl) (hb hby at_204) (fun _ _ => ⟨rfl, rfl, (by decide : 7 + 0 ≤ _), (by decide : 32 + 0 ≤ _)⟩)
  dsimp only [Pt.U, Pt.locs, Pt.cells, Pt.slots] at X27 l27 y27 z27 st27 hQ27
  subst l27 y27 z27
  obtain ⟨rfl, N27q, eh27⟩ := hQ27
  have Z27 : n0 ≤ T27.heap.size := by rw [eh27]; exact Z26
  have ArP27 : Arr Z T27.heap b20 clP .long := by rw [eh27]; exact ArP26
  have C27 : Arr Z T27.heap b14 clC2 .double := by rw [eh27]; exact C26
  have N27 := Fr.app N26 N27q
  obtain ⟨_, _, ⟨T28, L28, k28, n28⟩, -, X28, ⟨Lc28, hQ28, l28, y28, z28⟩, st28⟩ := Jvm.LawKit.callS X27 hx (y := (⟨"com/example/cycle_by_chance/cyclebychance/model/DemandToDateDrawDownPinLaw", "ok", "([DIIIII[JD)Z"⟩ : MethodName)) hown (mvT hZ (hw _ (List.mem_of_getElem? (i := 29) rfl))) (mvT hZ (hw _ (List.mem_of_getElem? (i := 30) rfl))) (mvT hZ (hw _ (List.mem_of_getElem? (i := 31) rfl))) (mvT hZ (hw _ (List.mem_of_getElem? (i := 32) rfl))) (by decide) (backOf (W := 0) (rm4 l Z a0 hw [] b14 (3 : Int32) p1 (Int32.ofNat fr) (Int32.ofNat first) (Int32.ofNat last) b20 (4612811918334230528 : UInt64) (PP p3 p4 p5 p6 3) clP (PP p3 p4 p5 p6 (fr - 1)) (FF (PP p3 p4 p5 p6) p1.toInt64 fr first last sent 2) clC2 T27.heap n0 Z27 ArP27 (fun q => q.elim (by decide) (fun q => by rw [PLp.1] at q; exact absurd q (by decide))) (PLp.2 3 (by decide)) in23 at23 C27 (fun q => q.elim (by decide) (fun q => by rw [CLc.1] at q; exact absurd q (by decide))) (CLc.2 2 (by decide)) (own_FFn _ _ _ _ _ _) (own_hy (PP p3 p4 p5 p6) p1.toInt64 fr first last 3 (by decide) (by decide) (by omega) (by omega))) hZ (hw _ (List.mem_of_getElem? (i := 32) rfl)) (hw _ (List.mem_of_getElem? (i := 31) rfl)) (by decide) (by decide)) (g := (mkF m 225 #[.val (.int p1), .val (.int p2), .val (.int p3), .val (.int p4), .val (.int p5), .val (.int p6), .val (.ref b7), .val (.ref b12), .val (.int (Int32.ofNat fr)), .val (.int (Int32.ofNat first)), .val (.int (Int32.ofNat last)), .val (.ref b14), .val (.ref b20)] [(.double (4612811918334230528 : UInt64)), (.ref b20), (.int (Int32.ofNat last)), (.int (Int32.ofNat first)), (.int (Int32.ofNat fr)), (.int p1), (.int (3 : Int32)), (.ref b14)])) rfl (by rw [hml]; rfl) (argsL := [(.ref b14), (.int (3 : Int32)), (.int p1), (.int (Int32.ofNat fr)), (.int (Int32.ofNat first)), (.int (Int32.ofNat last)), (.ref b20), (.double (4612811918334230528 : UInt64))]) (rest := []) (lenOf pd_0_3 rfl) rfl (by show 2 * 0 + _ ≤ _; exact Nat.le_of_eq rfl) (hb hby at_225) (fun _ _ => ⟨rfl, rfl, (by decide : 7 + 0 ≤ _), (by decide : 32 + 0 ≤ _)⟩)
  dsimp only [Pt.U, Pt.locs, Pt.cells, Pt.slots] at X28 l28 y28 z28 st28 hQ28
  subst l28 y28 z28
  obtain ⟨rfl, N28q, eh28⟩ := hQ28
  have Z28 : n0 ≤ T28.heap.size := by rw [eh28]; exact Z27
  have ArP28 : Arr Z T28.heap b20 clP .long := by rw [eh28]; exact ArP27
  have C28 : Arr Z T28.heap b14 clC2 .double := by rw [eh28]; exact C27
  have N28 := Fr.app N27 N28q
  obtain ⟨_, _, ⟨T29, L29, k29, n29⟩, -, X29, ⟨Lc29, hQ29, l29, y29, z29⟩, st29⟩ := Jvm.LawKit.callS X28 hx (y := (⟨"com/example/cycle_by_chance/cyclebychance/model/DemandToDateDrawDownPinLaw", "ok", "([DIIIII[JD)Z"⟩ : MethodName)) hown (mvT hZ (hw _ (List.mem_of_getElem? (i := 29) rfl))) (mvT hZ (hw _ (List.mem_of_getElem? (i := 30) rfl))) (mvT hZ (hw _ (List.mem_of_getElem? (i := 31) rfl))) (mvT hZ (hw _ (List.mem_of_getElem? (i := 32) rfl))) (by decide) (backOf (W := 0) (rm4 l Z a0 hw [] b14 (4 : Int32) p1 (Int32.ofNat fr) (Int32.ofNat first) (Int32.ofNat last) b20 (4615063718147915776 : UInt64) (PP p3 p4 p5 p6 4) clP (PP p3 p4 p5 p6 (fr - 1)) (FF (PP p3 p4 p5 p6) p1.toInt64 fr first last sent 3) clC2 T28.heap n0 Z28 ArP28 (fun q => q.elim (by decide) (fun q => by rw [PLp.1] at q; exact absurd q (by decide))) (PLp.2 4 (by decide)) in23 at23 C28 (fun q => q.elim (by decide) (fun q => by rw [CLc.1] at q; exact absurd q (by decide))) (CLc.2 3 (by decide)) (own_FFn _ _ _ _ _ _) (own_hy (PP p3 p4 p5 p6) p1.toInt64 fr first last 4 (by decide) (by decide) (by omega) (by omega))) hZ (hw _ (List.mem_of_getElem? (i := 32) rfl)) (hw _ (List.mem_of_getElem? (i := 31) rfl)) (by decide) (by decide)) (g := (mkF m 246 #[.val (.int p1), .val (.int p2), .val (.int p3), .val (.int p4), .val (.int p5), .val (.int p6), .val (.ref b7), .val (.ref b12), .val (.int (Int32.ofNat fr)), .val (.int (Int32.ofNat first)), .val (.int (Int32.ofNat last)), .val (.ref b14), .val (.ref b20)] [(.double (4615063718147915776 : UInt64)), (.ref b20), (.int (Int32.ofNat last)), (.int (Int32.ofNat first)), (.int (Int32.ofNat fr)), (.int p1), (.int (4 : Int32)), (.ref b14)])) rfl (by rw [hml]; rfl) (argsL := [(.ref b14), (.int (4 : Int32)), (.int p1), (.int (Int32.ofNat fr)), (.int (Int32.ofNat first)), (.int (Int32.ofNat last)), (.ref b20), (.double (4615063718147915776 : UInt64))]) (rest := []) (lenOf pd_0_3 rfl) rfl (by show 2 * 0 + _ ≤ _; exact Nat.le_of_eq rfl) (hb hby at_246) (fun _ _ => ⟨rfl, rfl, (by decide : 7 + 0 ≤ _), (by decide : 32 + 0 ≤ _)⟩)
  dsimp only [Pt.U, Pt.locs, Pt.cells, Pt.slots] at X29 l29 y29 z29 st29 hQ29
  subst l29 y29 z29
  obtain ⟨rfl, N29q, eh29⟩ := hQ29
  have N29 := Fr.app N28 N29q
  obtain ⟨fs, hr, hrun, hended, hW, hsame⟩ := X29.leave (v := some (.int (1 : Int32))) (fun h => by rw [Bd.returns] at h; cases h)
  refine ⟨_, _, pre0 _ ?_, hrun, hended, _, _, rfl, ?_, ⟨_, rfl⟩, hW, hsame.mono (by decide) (by decide)⟩
  · show Steps p.tables e below (s₁.setTop (mkF m 0 #[.val (.int p1), .val (.int p2), .val (.int p3), .val (.int p4), .val (.int p5), .val (.int p6), .unset, .unset, .unset, .unset, .unset, .unset, .unset] [])) _
    refine XS.iconst X0.here hx rfl (hb hby at_0) ?_
    show Steps p.tables e below (s₁.setTop (mkF m 1 #[.val (.int p1), .val (.int p2), .val (.int p3), .val (.int p4), .val (.int p5), .val (.int p6), .unset, .unset, .unset, .unset, .unset, .unset, .unset] [(.int (4 : Int32))])) _
    refine st7 _ ?_
    show Steps p.tables e below (T7.setTop (mkF m 3 #[.val (.int p1), .val (.int p2), .val (.int p3), .val (.int p4), .val (.int p5), .val (.int p6), .unset, .unset, .unset, .unset, .unset, .unset, .unset] [(.ref b7)])) _
    refine XS.dup X7.here hx rfl (hb hby at_3) rfl rfl ?_
    show Steps p.tables e below (T7.setTop (mkF m 4 #[.val (.int p1), .val (.int p2), .val (.int p3), .val (.int p4), .val (.int p5), .val (.int p6), .unset, .unset, .unset, .unset, .unset, .unset, .unset] [(.ref b7), (.ref b7)])) _
    refine XS.iconst X7.here hx rfl (hb hby at_4) ?_
    show Steps p.tables e below (T7.setTop (mkF m 5 #[.val (.int p1), .val (.int p2), .val (.int p3), .val (.int p4), .val (.int p5), .val (.int p6), .unset, .unset, .unset, .unset, .unset, .unset, .unset] [(.int (0 : Int32)), (.ref b7), (.ref b7)])) _
    refine XS.iloadN X7.here hx rfl (hb hby at_5) rfl ?_
    show Steps p.tables e below (T7.setTop (mkF m 6 #[.val (.int p1), .val (.int p2), .val (.int p3), .val (.int p4), .val (.int p5), .val (.int p6), .unset, .unset, .unset, .unset, .unset, .unset, .unset] [(.int p3), (.int (0 : Int32)), (.ref b7), (.ref b7)])) _
    refine XS.i2dS X7.here hx rfl (hb hby at_6) rfl (i2d_w p3) ?_
    show Steps p.tables e below (T7.setTop (mkF m 7 #[.val (.int p1), .val (.int p2), .val (.int p3), .val (.int p4), .val (.int p5), .val (.int p6), .unset, .unset, .unset, .unset, .unset, .unset, .unset] [(.double (FP.l2d p3.toInt64)), (.int (0 : Int32)), (.ref b7), (.ref b7)])) _
    refine st8 _ ?_
    show Steps p.tables e below (T8.setTop (mkF m 8 #[.val (.int p1), .val (.int p2), .val (.int p3), .val (.int p4), .val (.int p5), .val (.int p6), .unset, .unset, .unset, .unset, .unset, .unset, .unset] [(.ref b7)])) _
    refine XS.dup X8.here hx rfl (hb hby at_8) rfl rfl ?_
    show Steps p.tables e below (T8.setTop (mkF m 9 #[.val (.int p1), .val (.int p2), .val (.int p3), .val (.int p4), .val (.int p5), .val (.int p6), .unset, .unset, .unset, .unset, .unset, .unset, .unset] [(.ref b7), (.ref b7)])) _
    refine XS.iconst X8.here hx rfl (hb hby at_9) ?_
    show Steps p.tables e below (T8.setTop (mkF m 10 #[.val (.int p1), .val (.int p2), .val (.int p3), .val (.int p4), .val (.int p5), .val (.int p6), .unset, .unset, .unset, .unset, .unset, .unset, .unset] [(.int (1 : Int32)), (.ref b7), (.ref b7)])) _
    refine XS.iloadN X8.here hx rfl (hb hby at_10) rfl ?_
    show Steps p.tables e below (T8.setTop (mkF m 11 #[.val (.int p1), .val (.int p2), .val (.int p3), .val (.int p4), .val (.int p5), .val (.int p6), .unset, .unset, .unset, .unset, .unset, .unset, .unset] [(.int p4), (.int (1 : Int32)), (.ref b7), (.ref b7)])) _
    refine XS.i2dS X8.here hx rfl (hb hby at_11) rfl (i2d_w p4) ?_
    show Steps p.tables e below (T8.setTop (mkF m 12 #[.val (.int p1), .val (.int p2), .val (.int p3), .val (.int p4), .val (.int p5), .val (.int p6), .unset, .unset, .unset, .unset, .unset, .unset, .unset] [(.double (FP.l2d p4.toInt64)), (.int (1 : Int32)), (.ref b7), (.ref b7)])) _
    refine st9 _ ?_
    show Steps p.tables e below (T9.setTop (mkF m 13 #[.val (.int p1), .val (.int p2), .val (.int p3), .val (.int p4), .val (.int p5), .val (.int p6), .unset, .unset, .unset, .unset, .unset, .unset, .unset] [(.ref b7)])) _
    refine XS.dup X9.here hx rfl (hb hby at_13) rfl rfl ?_
    show Steps p.tables e below (T9.setTop (mkF m 14 #[.val (.int p1), .val (.int p2), .val (.int p3), .val (.int p4), .val (.int p5), .val (.int p6), .unset, .unset, .unset, .unset, .unset, .unset, .unset] [(.ref b7), (.ref b7)])) _
    refine XS.iconst X9.here hx rfl (hb hby at_14) ?_
    show Steps p.tables e below (T9.setTop (mkF m 15 #[.val (.int p1), .val (.int p2), .val (.int p3), .val (.int p4), .val (.int p5), .val (.int p6), .unset, .unset, .unset, .unset, .unset, .unset, .unset] [(.int (2 : Int32)), (.ref b7), (.ref b7)])) _
    refine XS.iload X9.here hx rfl (hb hby at_15) rfl ?_
    show Steps p.tables e below (T9.setTop (mkF m 17 #[.val (.int p1), .val (.int p2), .val (.int p3), .val (.int p4), .val (.int p5), .val (.int p6), .unset, .unset, .unset, .unset, .unset, .unset, .unset] [(.int p5), (.int (2 : Int32)), (.ref b7), (.ref b7)])) _
    refine XS.i2dS X9.here hx rfl (hb hby at_17) rfl (i2d_w p5) ?_
    show Steps p.tables e below (T9.setTop (mkF m 18 #[.val (.int p1), .val (.int p2), .val (.int p3), .val (.int p4), .val (.int p5), .val (.int p6), .unset, .unset, .unset, .unset, .unset, .unset, .unset] [(.double (FP.l2d p5.toInt64)), (.int (2 : Int32)), (.ref b7), (.ref b7)])) _
    refine st10 _ ?_
    show Steps p.tables e below (T10.setTop (mkF m 19 #[.val (.int p1), .val (.int p2), .val (.int p3), .val (.int p4), .val (.int p5), .val (.int p6), .unset, .unset, .unset, .unset, .unset, .unset, .unset] [(.ref b7)])) _
    refine XS.dup X10.here hx rfl (hb hby at_19) rfl rfl ?_
    show Steps p.tables e below (T10.setTop (mkF m 20 #[.val (.int p1), .val (.int p2), .val (.int p3), .val (.int p4), .val (.int p5), .val (.int p6), .unset, .unset, .unset, .unset, .unset, .unset, .unset] [(.ref b7), (.ref b7)])) _
    refine XS.iconst X10.here hx rfl (hb hby at_20) ?_
    show Steps p.tables e below (T10.setTop (mkF m 21 #[.val (.int p1), .val (.int p2), .val (.int p3), .val (.int p4), .val (.int p5), .val (.int p6), .unset, .unset, .unset, .unset, .unset, .unset, .unset] [(.int (3 : Int32)), (.ref b7), (.ref b7)])) _
    refine XS.iload X10.here hx rfl (hb hby at_21) rfl ?_
    show Steps p.tables e below (T10.setTop (mkF m 23 #[.val (.int p1), .val (.int p2), .val (.int p3), .val (.int p4), .val (.int p5), .val (.int p6), .unset, .unset, .unset, .unset, .unset, .unset, .unset] [(.int p6), (.int (3 : Int32)), (.ref b7), (.ref b7)])) _
    refine XS.i2dS X10.here hx rfl (hb hby at_23) rfl (i2d_w p6) ?_
    show Steps p.tables e below (T10.setTop (mkF m 24 #[.val (.int p1), .val (.int p2), .val (.int p3), .val (.int p4), .val (.int p5), .val (.int p6), .unset, .unset, .unset, .unset, .unset, .unset, .unset] [(.double (FP.l2d p6.toInt64)), (.int (3 : Int32)), (.ref b7), (.ref b7)])) _
    refine st11 _ ?_
    show Steps p.tables e below (T11.setTop (mkF m 25 #[.val (.int p1), .val (.int p2), .val (.int p3), .val (.int p4), .val (.int p5), .val (.int p6), .unset, .unset, .unset, .unset, .unset, .unset, .unset] [(.ref b7)])) _
    refine XS.astore X11.here hx rfl (hb hby at_25) rfl rfl (l' := #[.val (.int p1), .val (.int p2), .val (.int p3), .val (.int p4), .val (.int p5), .val (.int p6), .val (.ref b7), .unset, .unset, .unset, .unset, .unset, .unset]) rfl ?_
    show Steps p.tables e below (T11.setTop (mkF m 27 #[.val (.int p1), .val (.int p2), .val (.int p3), .val (.int p4), .val (.int p5), .val (.int p6), .val (.ref b7), .unset, .unset, .unset, .unset, .unset, .unset] [])) _
    refine st12 _ ?_
    show Steps p.tables e below (T12.setTop (mkF m 30 #[.val (.int p1), .val (.int p2), .val (.int p3), .val (.int p4), .val (.int p5), .val (.int p6), .val (.ref b7), .unset, .unset, .unset, .unset, .unset, .unset] [(.ref b12)])) _
    refine XS.dup X12.here hx rfl (hb hby at_30) rfl rfl ?_
    show Steps p.tables e below (T12.setTop (mkF m 31 #[.val (.int p1), .val (.int p2), .val (.int p3), .val (.int p4), .val (.int p5), .val (.int p6), .val (.ref b7), .unset, .unset, .unset, .unset, .unset, .unset] [(.ref b12), (.ref b12)])) _
    refine XS.aload X12.here hx rfl (hb hby at_31) rfl rfl ?_
    show Steps p.tables e below (T12.setTop (mkF m 33 #[.val (.int p1), .val (.int p2), .val (.int p3), .val (.int p4), .val (.int p5), .val (.int p6), .val (.ref b7), .unset, .unset, .unset, .unset, .unset, .unset] [(.ref b7), (.ref b12), (.ref b12)])) _
    refine st13.trans ?_
    show Steps p.tables e below (T13.setTop (mkF m 36 #[.val (.int p1), .val (.int p2), .val (.int p3), .val (.int p4), .val (.int p5), .val (.int p6), .val (.ref b7), .unset, .unset, .unset, .unset, .unset, .unset] [(.ref b12)])) _
    refine XS.astore X13.here hx rfl (hb hby at_36) rfl rfl (l' := #[.val (.int p1), .val (.int p2), .val (.int p3), .val (.int p4), .val (.int p5), .val (.int p6), .val (.ref b7), .val (.ref b12), .unset, .unset, .unset, .unset, .unset]) rfl ?_
    show Steps p.tables e below (T13.setTop (mkF m 38 #[.val (.int p1), .val (.int p2), .val (.int p3), .val (.int p4), .val (.int p5), .val (.int p6), .val (.ref b7), .val (.ref b12), .unset, .unset, .unset, .unset, .unset] [])) _
    refine XS.iconst X13.here hx rfl (hb hby at_38) ?_
    show Steps p.tables e below (T13.setTop (mkF m 39 #[.val (.int p1), .val (.int p2), .val (.int p3), .val (.int p4), .val (.int p5), .val (.int p6), .val (.ref b7), .val (.ref b12), .unset, .unset, .unset, .unset, .unset] [(.int (1 : Int32))])) _
    refine XS.iloadN X13.here hx rfl (hb hby at_39) rfl ?_
    show Steps p.tables e below (T13.setTop (mkF m 40 #[.val (.int p1), .val (.int p2), .val (.int p3), .val (.int p4), .val (.int p5), .val (.int p6), .val (.ref b7), .val (.ref b12), .unset, .unset, .unset, .unset, .unset] [(.int p2), (.int (1 : Int32))])) _
    refine XS.iconst X13.here hx rfl (hb hby at_40) ?_
    show Steps p.tables e below (T13.setTop (mkF m 41 #[.val (.int p1), .val (.int p2), .val (.int p3), .val (.int p4), .val (.int p5), .val (.int p6), .val (.ref b7), .val (.ref b12), .unset, .unset, .unset, .unset, .unset] [(.int (3 : Int32)), (.int p2), (.int (1 : Int32))])) _
    refine XS.iand X13.here hx rfl (hb hby at_41) rfl ?_
    show Steps p.tables e below (T13.setTop (mkF m 42 #[.val (.int p1), .val (.int p2), .val (.int p3), .val (.int p4), .val (.int p5), .val (.int p6), .val (.ref b7), .val (.ref b12), .unset, .unset, .unset, .unset, .unset] [(.int (p2 &&& (3 : Int32))), (.int (1 : Int32))])) _
    refine XS.iadd X13.here hx rfl (hb hby at_42) rfl ?_
    show Steps p.tables e below (T13.setTop (mkF m 43 #[.val (.int p1), .val (.int p2), .val (.int p3), .val (.int p4), .val (.int p5), .val (.int p6), .val (.ref b7), .val (.ref b12), .unset, .unset, .unset, .unset, .unset] [(.int ((1 : Int32) + (p2 &&& (3 : Int32))))])) _
    refine XS.istore X13.here hx rfl (hb hby at_43) rfl (l' := #[.val (.int p1), .val (.int p2), .val (.int p3), .val (.int p4), .val (.int p5), .val (.int p6), .val (.ref b7), .val (.ref b12), .val (.int ((1 : Int32) + (p2 &&& (3 : Int32)))), .unset, .unset, .unset, .unset]) rfl ?_
    show Steps p.tables e below (T13.setTop (mkF m 45 #[.val (.int p1), .val (.int p2), .val (.int p3), .val (.int p4), .val (.int p5), .val (.int p6), .val (.ref b7), .val (.ref b12), .val (.int ((1 : Int32) + (p2 &&& (3 : Int32)))), .unset, .unset, .unset, .unset] [])) _
    rw [hk43]
    show Steps p.tables e below (T13.setTop (mkF m 45 #[.val (.int p1), .val (.int p2), .val (.int p3), .val (.int p4), .val (.int p5), .val (.int p6), .val (.ref b7), .val (.ref b12), .val (.int (Int32.ofNat fr)), .unset, .unset, .unset, .unset] [])) _
    refine XS.iload X13.here hx rfl (hb hby at_45) rfl ?_
    show Steps p.tables e below (T13.setTop (mkF m 47 #[.val (.int p1), .val (.int p2), .val (.int p3), .val (.int p4), .val (.int p5), .val (.int p6), .val (.ref b7), .val (.ref b12), .val (.int (Int32.ofNat fr)), .unset, .unset, .unset, .unset] [(.int (Int32.ofNat fr))])) _
    refine XS.iloadN X13.here hx rfl (hb hby at_47) rfl ?_
    show Steps p.tables e below (T13.setTop (mkF m 48 #[.val (.int p1), .val (.int p2), .val (.int p3), .val (.int p4), .val (.int p5), .val (.int p6), .val (.ref b7), .val (.ref b12), .val (.int (Int32.ofNat fr)), .unset, .unset, .unset, .unset] [(.int p2), (.int (Int32.ofNat fr))])) _
    refine XS.iconst X13.here hx rfl (hb hby at_48) ?_
    show Steps p.tables e below (T13.setTop (mkF m 49 #[.val (.int p1), .val (.int p2), .val (.int p3), .val (.int p4), .val (.int p5), .val (.int p6), .val (.ref b7), .val (.ref b12), .val (.int (Int32.ofNat fr)), .unset, .unset, .unset, .unset] [(.int (2 : Int32)), (.int p2), (.int (Int32.ofNat fr))])) _
    refine XS.iushr X13.here hx rfl (hb hby at_49) rfl ?_
    show Steps p.tables e below (T13.setTop (mkF m 50 #[.val (.int p1), .val (.int p2), .val (.int p3), .val (.int p4), .val (.int p5), .val (.int p6), .val (.ref b7), .val (.ref b12), .val (.int (Int32.ofNat fr)), .unset, .unset, .unset, .unset] [(.int ((p2.toUInt32 >>> ((2 : Int32) &&& 31).toUInt32).toInt32)), (.int (Int32.ofNat fr))])) _
    refine XS.iconst X13.here hx rfl (hb hby at_50) ?_
    show Steps p.tables e below (T13.setTop (mkF m 51 #[.val (.int p1), .val (.int p2), .val (.int p3), .val (.int p4), .val (.int p5), .val (.int p6), .val (.ref b7), .val (.ref b12), .val (.int (Int32.ofNat fr)), .unset, .unset, .unset, .unset] [(.int (3 : Int32)), (.int ((p2.toUInt32 >>> ((2 : Int32) &&& 31).toUInt32).toInt32)), (.int (Int32.ofNat fr))])) _
    refine XS.iand X13.here hx rfl (hb hby at_51) rfl ?_
    show Steps p.tables e below (T13.setTop (mkF m 52 #[.val (.int p1), .val (.int p2), .val (.int p3), .val (.int p4), .val (.int p5), .val (.int p6), .val (.ref b7), .val (.ref b12), .val (.int (Int32.ofNat fr)), .unset, .unset, .unset, .unset] [(.int (((p2.toUInt32 >>> ((2 : Int32) &&& 31).toUInt32).toInt32) &&& (3 : Int32))), (.int (Int32.ofNat fr))])) _
    refine XS.iadd X13.here hx rfl (hb hby at_52) rfl ?_
    show Steps p.tables e below (T13.setTop (mkF m 53 #[.val (.int p1), .val (.int p2), .val (.int p3), .val (.int p4), .val (.int p5), .val (.int p6), .val (.ref b7), .val (.ref b12), .val (.int (Int32.ofNat fr)), .unset, .unset, .unset, .unset] [(.int ((Int32.ofNat fr) + (((p2.toUInt32 >>> ((2 : Int32) &&& 31).toUInt32).toInt32) &&& (3 : Int32))))])) _
    refine XS.istore X13.here hx rfl (hb hby at_53) rfl (l' := #[.val (.int p1), .val (.int p2), .val (.int p3), .val (.int p4), .val (.int p5), .val (.int p6), .val (.ref b7), .val (.ref b12), .val (.int (Int32.ofNat fr)), .val (.int ((Int32.ofNat fr) + (((p2.toUInt32 >>> ((2 : Int32) &&& 31).toUInt32).toInt32) &&& (3 : Int32)))), .unset, .unset, .unset]) rfl ?_
    show Steps p.tables e below (T13.setTop (mkF m 55 #[.val (.int p1), .val (.int p2), .val (.int p3), .val (.int p4), .val (.int p5), .val (.int p6), .val (.ref b7), .val (.ref b12), .val (.int (Int32.ofNat fr)), .val (.int ((Int32.ofNat fr) + (((p2.toUInt32 >>> ((2 : Int32) &&& 31).toUInt32).toInt32) &&& (3 : Int32)))), .unset, .unset, .unset] [])) _
    rw [hk53]
    show Steps p.tables e below (T13.setTop (mkF m 55 #[.val (.int p1), .val (.int p2), .val (.int p3), .val (.int p4), .val (.int p5), .val (.int p6), .val (.ref b7), .val (.ref b12), .val (.int (Int32.ofNat fr)), .val (.int (Int32.ofNat first)), .unset, .unset, .unset] [])) _
    refine XS.iload X13.here hx rfl (hb hby at_55) rfl ?_
    show Steps p.tables e below (T13.setTop (mkF m 57 #[.val (.int p1), .val (.int p2), .val (.int p3), .val (.int p4), .val (.int p5), .val (.int p6), .val (.ref b7), .val (.ref b12), .val (.int (Int32.ofNat fr)), .val (.int (Int32.ofNat first)), .unset, .unset, .unset] [(.int (Int32.ofNat first))])) _
    refine XS.iconst X13.here hx rfl (hb hby at_57) ?_
    show Steps p.tables e below (T13.setTop (mkF m 58 #[.val (.int p1), .val (.int p2), .val (.int p3), .val (.int p4), .val (.int p5), .val (.int p6), .val (.ref b7), .val (.ref b12), .val (.int (Int32.ofNat fr)), .val (.int (Int32.ofNat first)), .unset, .unset, .unset] [(.int (5 : Int32)), (.int (Int32.ofNat first))])) _
    refine XS.icmpYes X13.here hx rfl (pc0 := 58) (pc' := 64) rfl (hb hby at_58) rfl (flt hc58).2.2.2 (by decide) (by decide) ?_
    show Steps p.tables e below (T13.setTop (mkF m 64 #[.val (.int p1), .val (.int p2), .val (.int p3), .val (.int p4), .val (.int p5), .val (.int p6), .val (.ref b7), .val (.ref b12), .val (.int (Int32.ofNat fr)), .val (.int (Int32.ofNat first)), .unset, .unset, .unset] [])) _
    refine XS.iloadN X13.here hx rfl (hb hby at_64) rfl ?_
    show Steps p.tables e below (T13.setTop (mkF m 65 #[.val (.int p1), .val (.int p2), .val (.int p3), .val (.int p4), .val (.int p5), .val (.int p6), .val (.ref b7), .val (.ref b12), .val (.int (Int32.ofNat fr)), .val (.int (Int32.ofNat first)), .unset, .unset, .unset] [(.int p2)])) _
    refine XS.iconst X13.here hx rfl (hb hby at_65) ?_
    show Steps p.tables e below (T13.setTop (mkF m 66 #[.val (.int p1), .val (.int p2), .val (.int p3), .val (.int p4), .val (.int p5), .val (.int p6), .val (.ref b7), .val (.ref b12), .val (.int (Int32.ofNat fr)), .val (.int (Int32.ofNat first)), .unset, .unset, .unset] [(.int (4 : Int32)), (.int p2)])) _
    refine XS.iushr X13.here hx rfl (hb hby at_66) rfl ?_
    show Steps p.tables e below (T13.setTop (mkF m 67 #[.val (.int p1), .val (.int p2), .val (.int p3), .val (.int p4), .val (.int p5), .val (.int p6), .val (.ref b7), .val (.ref b12), .val (.int (Int32.ofNat fr)), .val (.int (Int32.ofNat first)), .unset, .unset, .unset] [(.int ((p2.toUInt32 >>> ((4 : Int32) &&& 31).toUInt32).toInt32))])) _
    refine XS.bipush X13.here hx rfl (hb hby at_67) ?_
    show Steps p.tables e below (T13.setTop (mkF m 69 #[.val (.int p1), .val (.int p2), .val (.int p3), .val (.int p4), .val (.int p5), .val (.int p6), .val (.ref b7), .val (.ref b12), .val (.int (Int32.ofNat fr)), .val (.int (Int32.ofNat first)), .unset, .unset, .unset] [(.int (7 : Int32)), (.int ((p2.toUInt32 >>> ((4 : Int32) &&& 31).toUInt32).toInt32))])) _
    refine XS.iand X13.here hx rfl (hb hby at_69) rfl ?_
    show Steps p.tables e below (T13.setTop (mkF m 70 #[.val (.int p1), .val (.int p2), .val (.int p3), .val (.int p4), .val (.int p5), .val (.int p6), .val (.ref b7), .val (.ref b12), .val (.int (Int32.ofNat fr)), .val (.int (Int32.ofNat first)), .unset, .unset, .unset] [(.int (((p2.toUInt32 >>> ((4 : Int32) &&& 31).toUInt32).toInt32) &&& (7 : Int32)))])) _
    refine XS.iconst X13.here hx rfl (hb hby at_70) ?_
    show Steps p.tables e below (T13.setTop (mkF m 71 #[.val (.int p1), .val (.int p2), .val (.int p3), .val (.int p4), .val (.int p5), .val (.int p6), .val (.ref b7), .val (.ref b12), .val (.int (Int32.ofNat fr)), .val (.int (Int32.ofNat first)), .unset, .unset, .unset] [(.int (5 : Int32)), (.int (((p2.toUInt32 >>> ((4 : Int32) &&& 31).toUInt32).toInt32) &&& (7 : Int32)))])) _
    refine iremM X13 hx rfl (hb hby at_71) rfl (by decide) ?_
    show Steps p.tables e below (T13.setTop (mkF m 72 #[.val (.int p1), .val (.int p2), .val (.int p3), .val (.int p4), .val (.int p5), .val (.int p6), .val (.ref b7), .val (.ref b12), .val (.int (Int32.ofNat fr)), .val (.int (Int32.ofNat first)), .unset, .unset, .unset] [(.int ((((p2.toUInt32 >>> ((4 : Int32) &&& 31).toUInt32).toInt32) &&& (7 : Int32)) % (5 : Int32)))])) _
    refine XS.istore X13.here hx rfl (hb hby at_72) rfl (l' := #[.val (.int p1), .val (.int p2), .val (.int p3), .val (.int p4), .val (.int p5), .val (.int p6), .val (.ref b7), .val (.ref b12), .val (.int (Int32.ofNat fr)), .val (.int (Int32.ofNat first)), .val (.int ((((p2.toUInt32 >>> ((4 : Int32) &&& 31).toUInt32).toInt32) &&& (7 : Int32)) % (5 : Int32))), .unset, .unset]) rfl ?_
    show Steps p.tables e below (T13.setTop (mkF m 74 #[.val (.int p1), .val (.int p2), .val (.int p3), .val (.int p4), .val (.int p5), .val (.int p6), .val (.ref b7), .val (.ref b12), .val (.int (Int32.ofNat fr)), .val (.int (Int32.ofNat first)), .val (.int ((((p2.toUInt32 >>> ((4 : Int32) &&& 31).toUInt32).toInt32) &&& (7 : Int32)) % (5 : Int32))), .unset, .unset] [])) _
    rw [hk72]
    show Steps p.tables e below (T13.setTop (mkF m 74 #[.val (.int p1), .val (.int p2), .val (.int p3), .val (.int p4), .val (.int p5), .val (.int p6), .val (.ref b7), .val (.ref b12), .val (.int (Int32.ofNat fr)), .val (.int (Int32.ofNat first)), .val (.int (Int32.ofNat last)), .unset, .unset] [])) _
    refine XS.iconst X13.here hx rfl (hb hby at_74) ?_
    show Steps p.tables e below (T13.setTop (mkF m 75 #[.val (.int p1), .val (.int p2), .val (.int p3), .val (.int p4), .val (.int p5), .val (.int p6), .val (.ref b7), .val (.ref b12), .val (.int (Int32.ofNat fr)), .val (.int (Int32.ofNat first)), .val (.int (Int32.ofNat last)), .unset, .unset] [(.int (4 : Int32))])) _
    refine st14 _ ?_
    show Steps p.tables e below (T14.setTop (mkF m 77 #[.val (.int p1), .val (.int p2), .val (.int p3), .val (.int p4), .val (.int p5), .val (.int p6), .val (.ref b7), .val (.ref b12), .val (.int (Int32.ofNat fr)), .val (.int (Int32.ofNat first)), .val (.int (Int32.ofNat last)), .unset, .unset] [(.ref b14)])) _
    refine XS.dup X14.here hx rfl (hb hby at_77) rfl rfl ?_
    show Steps p.tables e below (T14.setTop (mkF m 78 #[.val (.int p1), .val (.int p2), .val (.int p3), .val (.int p4), .val (.int p5), .val (.int p6), .val (.ref b7), .val (.ref b12), .val (.int (Int32.ofNat fr)), .val (.int (Int32.ofNat first)), .val (.int (Int32.ofNat last)), .unset, .unset] [(.ref b14), (.ref b14)])) _
    refine XS.iconst X14.here hx rfl (hb hby at_78) ?_
    show Steps p.tables e below (T14.setTop (mkF m 79 #[.val (.int p1), .val (.int p2), .val (.int p3), .val (.int p4), .val (.int p5), .val (.int p6), .val (.ref b7), .val (.ref b12), .val (.int (Int32.ofNat fr)), .val (.int (Int32.ofNat first)), .val (.int (Int32.ofNat last)), .unset, .unset] [(.int (0 : Int32)), (.ref b14), (.ref b14)])) _
    refine X14.ldc2DoubleC hx hown (mvT hZ (hw _ (List.mem_of_getElem? (i := 19) rfl))) (g := (mkF m 79 #[.val (.int p1), .val (.int p2), .val (.int p3), .val (.int p4), .val (.int p5), .val (.int p6), .val (.ref b7), .val (.ref b12), .val (.int (Int32.ofNat fr)), .val (.int (Int32.ofNat first)), .val (.int (Int32.ofNat last)), .unset, .unset] [(.int (0 : Int32)), (.ref b14), (.ref b14)])) rfl (hb hby at_79) _ ?_
    show Steps p.tables e below (T14.setTop (mkF m 82 #[.val (.int p1), .val (.int p2), .val (.int p3), .val (.int p4), .val (.int p5), .val (.int p6), .val (.ref b7), .val (.ref b12), .val (.int (Int32.ofNat fr)), .val (.int (Int32.ofNat first)), .val (.int (Int32.ofNat last)), .unset, .unset] [(.double (4602678819172646912 : UInt64)), (.int (0 : Int32)), (.ref b14), (.ref b14)])) _
    refine st15 _ ?_
    show Steps p.tables e below (T15.setTop (mkF m 83 #[.val (.int p1), .val (.int p2), .val (.int p3), .val (.int p4), .val (.int p5), .val (.int p6), .val (.ref b7), .val (.ref b12), .val (.int (Int32.ofNat fr)), .val (.int (Int32.ofNat first)), .val (.int (Int32.ofNat last)), .unset, .unset] [(.ref b14)])) _
    refine XS.dup X15.here hx rfl (hb hby at_83) rfl rfl ?_
    show Steps p.tables e below (T15.setTop (mkF m 84 #[.val (.int p1), .val (.int p2), .val (.int p3), .val (.int p4), .val (.int p5), .val (.int p6), .val (.ref b7), .val (.ref b12), .val (.int (Int32.ofNat fr)), .val (.int (Int32.ofNat first)), .val (.int (Int32.ofNat last)), .unset, .unset] [(.ref b14), (.ref b14)])) _
    refine XS.iconst X15.here hx rfl (hb hby at_84) ?_
    show Steps p.tables e below (T15.setTop (mkF m 85 #[.val (.int p1), .val (.int p2), .val (.int p3), .val (.int p4), .val (.int p5), .val (.int p6), .val (.ref b7), .val (.ref b12), .val (.int (Int32.ofNat fr)), .val (.int (Int32.ofNat first)), .val (.int (Int32.ofNat last)), .unset, .unset] [(.int (1 : Int32)), (.ref b14), (.ref b14)])) _
    refine X15.ldc2DoubleC hx hown (mvT hZ (hw _ (List.mem_of_getElem? (i := 20) rfl))) (g := (mkF m 85 #[.val (.int p1), .val (.int p2), .val (.int p3), .val (.int p4), .val (.int p5), .val (.int p6), .val (.ref b7), .val (.ref b12), .val (.int (Int32.ofNat fr)), .val (.int (Int32.ofNat first)), .val (.int (Int32.ofNat last)), .unset, .unset] [(.int (1 : Int32)), (.ref b14), (.ref b14)])) rfl (hb hby at_85) _ ?_
    show Steps p.tables e below (T15.setTop (mkF m 88 #[.val (.int p1), .val (.int p2), .val (.int p3), .val (.int p4), .val (.int p5), .val (.int p6), .val (.ref b7), .val (.ref b12), .val (.int (Int32.ofNat fr)), .val (.int (Int32.ofNat first)), .val (.int (Int32.ofNat last)), .unset, .unset] [(.double (4609434218613702656 : UInt64)), (.int (1 : Int32)), (.ref b14), (.ref b14)])) _
    refine st16 _ ?_
    show Steps p.tables e below (T16.setTop (mkF m 89 #[.val (.int p1), .val (.int p2), .val (.int p3), .val (.int p4), .val (.int p5), .val (.int p6), .val (.ref b7), .val (.ref b12), .val (.int (Int32.ofNat fr)), .val (.int (Int32.ofNat first)), .val (.int (Int32.ofNat last)), .unset, .unset] [(.ref b14)])) _
    refine XS.dup X16.here hx rfl (hb hby at_89) rfl rfl ?_
    show Steps p.tables e below (T16.setTop (mkF m 90 #[.val (.int p1), .val (.int p2), .val (.int p3), .val (.int p4), .val (.int p5), .val (.int p6), .val (.ref b7), .val (.ref b12), .val (.int (Int32.ofNat fr)), .val (.int (Int32.ofNat first)), .val (.int (Int32.ofNat last)), .unset, .unset] [(.ref b14), (.ref b14)])) _
    refine XS.iconst X16.here hx rfl (hb hby at_90) ?_
    show Steps p.tables e below (T16.setTop (mkF m 91 #[.val (.int p1), .val (.int p2), .val (.int p3), .val (.int p4), .val (.int p5), .val (.int p6), .val (.ref b7), .val (.ref b12), .val (.int (Int32.ofNat fr)), .val (.int (Int32.ofNat first)), .val (.int (Int32.ofNat last)), .unset, .unset] [(.int (2 : Int32)), (.ref b14), (.ref b14)])) _
    refine X16.ldc2DoubleC hx hown (mvT hZ (hw _ (List.mem_of_getElem? (i := 21) rfl))) (g := (mkF m 91 #[.val (.int p1), .val (.int p2), .val (.int p3), .val (.int p4), .val (.int p5), .val (.int p6), .val (.ref b7), .val (.ref b12), .val (.int (Int32.ofNat fr)), .val (.int (Int32.ofNat first)), .val (.int (Int32.ofNat last)), .unset, .unset] [(.int (2 : Int32)), (.ref b14), (.ref b14)])) rfl (hb hby at_91) _ ?_
    show Steps p.tables e below (T16.setTop (mkF m 94 #[.val (.int p1), .val (.int p2), .val (.int p3), .val (.int p4), .val (.int p5), .val (.int p6), .val (.ref b7), .val (.ref b12), .val (.int (Int32.ofNat fr)), .val (.int (Int32.ofNat first)), .val (.int (Int32.ofNat last)), .unset, .unset] [(.double (4612811918334230528 : UInt64)), (.int (2 : Int32)), (.ref b14), (.ref b14)])) _
    refine st17 _ ?_
    show Steps p.tables e below (T17.setTop (mkF m 95 #[.val (.int p1), .val (.int p2), .val (.int p3), .val (.int p4), .val (.int p5), .val (.int p6), .val (.ref b7), .val (.ref b12), .val (.int (Int32.ofNat fr)), .val (.int (Int32.ofNat first)), .val (.int (Int32.ofNat last)), .unset, .unset] [(.ref b14)])) _
    refine XS.dup X17.here hx rfl (hb hby at_95) rfl rfl ?_
    show Steps p.tables e below (T17.setTop (mkF m 96 #[.val (.int p1), .val (.int p2), .val (.int p3), .val (.int p4), .val (.int p5), .val (.int p6), .val (.ref b7), .val (.ref b12), .val (.int (Int32.ofNat fr)), .val (.int (Int32.ofNat first)), .val (.int (Int32.ofNat last)), .unset, .unset] [(.ref b14), (.ref b14)])) _
    refine XS.iconst X17.here hx rfl (hb hby at_96) ?_
    show Steps p.tables e below (T17.setTop (mkF m 97 #[.val (.int p1), .val (.int p2), .val (.int p3), .val (.int p4), .val (.int p5), .val (.int p6), .val (.ref b7), .val (.ref b12), .val (.int (Int32.ofNat fr)), .val (.int (Int32.ofNat first)), .val (.int (Int32.ofNat last)), .unset, .unset] [(.int (3 : Int32)), (.ref b14), (.ref b14)])) _
    refine X17.ldc2DoubleC hx hown (mvT hZ (hw _ (List.mem_of_getElem? (i := 22) rfl))) (g := (mkF m 97 #[.val (.int p1), .val (.int p2), .val (.int p3), .val (.int p4), .val (.int p5), .val (.int p6), .val (.ref b7), .val (.ref b12), .val (.int (Int32.ofNat fr)), .val (.int (Int32.ofNat first)), .val (.int (Int32.ofNat last)), .unset, .unset] [(.int (3 : Int32)), (.ref b14), (.ref b14)])) rfl (hb hby at_97) _ ?_
    show Steps p.tables e below (T17.setTop (mkF m 100 #[.val (.int p1), .val (.int p2), .val (.int p3), .val (.int p4), .val (.int p5), .val (.int p6), .val (.ref b7), .val (.ref b12), .val (.int (Int32.ofNat fr)), .val (.int (Int32.ofNat first)), .val (.int (Int32.ofNat last)), .unset, .unset] [(.double (4615063718147915776 : UInt64)), (.int (3 : Int32)), (.ref b14), (.ref b14)])) _
    refine st18 _ ?_
    show Steps p.tables e below (T18.setTop (mkF m 101 #[.val (.int p1), .val (.int p2), .val (.int p3), .val (.int p4), .val (.int p5), .val (.int p6), .val (.ref b7), .val (.ref b12), .val (.int (Int32.ofNat fr)), .val (.int (Int32.ofNat first)), .val (.int (Int32.ofNat last)), .unset, .unset] [(.ref b14)])) _
    refine XS.astore X18.here hx rfl (hb hby at_101) rfl rfl (l' := #[.val (.int p1), .val (.int p2), .val (.int p3), .val (.int p4), .val (.int p5), .val (.int p6), .val (.ref b7), .val (.ref b12), .val (.int (Int32.ofNat fr)), .val (.int (Int32.ofNat first)), .val (.int (Int32.ofNat last)), .val (.ref b14), .unset]) rfl ?_
    show Steps p.tables e below (T18.setTop (mkF m 103 #[.val (.int p1), .val (.int p2), .val (.int p3), .val (.int p4), .val (.int p5), .val (.int p6), .val (.ref b7), .val (.ref b12), .val (.int (Int32.ofNat fr)), .val (.int (Int32.ofNat first)), .val (.int (Int32.ofNat last)), .val (.ref b14), .unset] [])) _
    refine XS.aload X18.here hx rfl (hb hby at_103) rfl rfl ?_
    show Steps p.tables e below (T18.setTop (mkF m 105 #[.val (.int p1), .val (.int p2), .val (.int p3), .val (.int p4), .val (.int p5), .val (.int p6), .val (.ref b7), .val (.ref b12), .val (.int (Int32.ofNat fr)), .val (.int (Int32.ofNat first)), .val (.int (Int32.ofNat last)), .val (.ref b14), .unset] [(.ref b12)])) _
    refine XS.iloadN X18.here hx rfl (hb hby at_105) rfl ?_
    show Steps p.tables e below (T18.setTop (mkF m 106 #[.val (.int p1), .val (.int p2), .val (.int p3), .val (.int p4), .val (.int p5), .val (.int p6), .val (.ref b7), .val (.ref b12), .val (.int (Int32.ofNat fr)), .val (.int (Int32.ofNat first)), .val (.int (Int32.ofNat last)), .val (.ref b14), .unset] [(.int p1), (.ref b12)])) _
    refine XS.i2dS X18.here hx rfl (hb hby at_106) rfl (i2d_w p1) ?_
    show Steps p.tables e below (T18.setTop (mkF m 107 #[.val (.int p1), .val (.int p2), .val (.int p3), .val (.int p4), .val (.int p5), .val (.int p6), .val (.ref b7), .val (.ref b12), .val (.int (Int32.ofNat fr)), .val (.int (Int32.ofNat first)), .val (.int (Int32.ofNat last)), .val (.ref b14), .unset] [(.double (FP.l2d p1.toInt64)), (.ref b12)])) _
    refine XS.iload X18.here hx rfl (hb hby at_107) rfl ?_
    show Steps p.tables e below (T18.setTop (mkF m 109 #[.val (.int p1), .val (.int p2), .val (.int p3), .val (.int p4), .val (.int p5), .val (.int p6), .val (.ref b7), .val (.ref b12), .val (.int (Int32.ofNat fr)), .val (.int (Int32.ofNat first)), .val (.int (Int32.ofNat last)), .val (.ref b14), .unset] [(.int (Int32.ofNat fr)), (.double (FP.l2d p1.toInt64)), (.ref b12)])) _
    refine XS.iload X18.here hx rfl (hb hby at_109) rfl ?_
    show Steps p.tables e below (T18.setTop (mkF m 111 #[.val (.int p1), .val (.int p2), .val (.int p3), .val (.int p4), .val (.int p5), .val (.int p6), .val (.ref b7), .val (.ref b12), .val (.int (Int32.ofNat fr)), .val (.int (Int32.ofNat first)), .val (.int (Int32.ofNat last)), .val (.ref b14), .unset] [(.int (Int32.ofNat first)), (.int (Int32.ofNat fr)), (.double (FP.l2d p1.toInt64)), (.ref b12)])) _
    refine XS.iload X18.here hx rfl (hb hby at_111) rfl ?_
    show Steps p.tables e below (T18.setTop (mkF m 113 #[.val (.int p1), .val (.int p2), .val (.int p3), .val (.int p4), .val (.int p5), .val (.int p6), .val (.ref b7), .val (.ref b12), .val (.int (Int32.ofNat fr)), .val (.int (Int32.ofNat first)), .val (.int (Int32.ofNat last)), .val (.ref b14), .unset] [(.int (Int32.ofNat last)), (.int (Int32.ofNat first)), (.int (Int32.ofNat fr)), (.double (FP.l2d p1.toInt64)), (.ref b12)])) _
    refine XS.aload X18.here hx rfl (hb hby at_113) rfl rfl ?_
    show Steps p.tables e below (T18.setTop (mkF m 115 #[.val (.int p1), .val (.int p2), .val (.int p3), .val (.int p4), .val (.int p5), .val (.int p6), .val (.ref b7), .val (.ref b12), .val (.int (Int32.ofNat fr)), .val (.int (Int32.ofNat first)), .val (.int (Int32.ofNat last)), .val (.ref b14), .unset] [(.ref b14), (.int (Int32.ofNat last)), (.int (Int32.ofNat first)), (.int (Int32.ofNat fr)), (.double (FP.l2d p1.toInt64)), (.ref b12)])) _
    refine st19.trans ?_
    show Steps p.tables e below (T19.setTop (mkF m 118 #[.val (.int p1), .val (.int p2), .val (.int p3), .val (.int p4), .val (.int p5), .val (.int p6), .val (.ref b7), .val (.ref b12), .val (.int (Int32.ofNat fr)), .val (.int (Int32.ofNat first)), .val (.int (Int32.ofNat last)), .val (.ref b14), .unset] [])) _
    refine XS.iconst X19.here hx rfl (hb hby at_118) ?_
    show Steps p.tables e below (T19.setTop (mkF m 119 #[.val (.int p1), .val (.int p2), .val (.int p3), .val (.int p4), .val (.int p5), .val (.int p6), .val (.ref b7), .val (.ref b12), .val (.int (Int32.ofNat fr)), .val (.int (Int32.ofNat first)), .val (.int (Int32.ofNat last)), .val (.ref b14), .unset] [(.int (5 : Int32))])) _
    refine st20 _ ?_
    show Steps p.tables e below (T20.setTop (mkF m 121 #[.val (.int p1), .val (.int p2), .val (.int p3), .val (.int p4), .val (.int p5), .val (.int p6), .val (.ref b7), .val (.ref b12), .val (.int (Int32.ofNat fr)), .val (.int (Int32.ofNat first)), .val (.int (Int32.ofNat last)), .val (.ref b14), .unset] [(.ref b20)])) _
    refine XS.dup X20.here hx rfl (hb hby at_121) rfl rfl ?_
    show Steps p.tables e below (T20.setTop (mkF m 122 #[.val (.int p1), .val (.int p2), .val (.int p3), .val (.int p4), .val (.int p5), .val (.int p6), .val (.ref b7), .val (.ref b12), .val (.int (Int32.ofNat fr)), .val (.int (Int32.ofNat first)), .val (.int (Int32.ofNat last)), .val (.ref b14), .unset] [(.ref b20), (.ref b20)])) _
    refine XS.iconst X20.here hx rfl (hb hby at_122) ?_
    show Steps p.tables e below (T20.setTop (mkF m 123 #[.val (.int p1), .val (.int p2), .val (.int p3), .val (.int p4), .val (.int p5), .val (.int p6), .val (.ref b7), .val (.ref b12), .val (.int (Int32.ofNat fr)), .val (.int (Int32.ofNat first)), .val (.int (Int32.ofNat last)), .val (.ref b14), .unset] [(.int (0 : Int32)), (.ref b20), (.ref b20)])) _
    refine XS.lconst X20.here hx rfl (hb hby at_123) ?_
    show Steps p.tables e below (T20.setTop (mkF m 124 #[.val (.int p1), .val (.int p2), .val (.int p3), .val (.int p4), .val (.int p5), .val (.int p6), .val (.ref b7), .val (.ref b12), .val (.int (Int32.ofNat fr)), .val (.int (Int32.ofNat first)), .val (.int (Int32.ofNat last)), .val (.ref b14), .unset] [(.long (0 : Int64)), (.int (0 : Int32)), (.ref b20), (.ref b20)])) _
    refine st21 _ ?_
    show Steps p.tables e below (T21.setTop (mkF m 125 #[.val (.int p1), .val (.int p2), .val (.int p3), .val (.int p4), .val (.int p5), .val (.int p6), .val (.ref b7), .val (.ref b12), .val (.int (Int32.ofNat fr)), .val (.int (Int32.ofNat first)), .val (.int (Int32.ofNat last)), .val (.ref b14), .unset] [(.ref b20)])) _
    refine XS.dup X21.here hx rfl (hb hby at_125) rfl rfl ?_
    show Steps p.tables e below (T21.setTop (mkF m 126 #[.val (.int p1), .val (.int p2), .val (.int p3), .val (.int p4), .val (.int p5), .val (.int p6), .val (.ref b7), .val (.ref b12), .val (.int (Int32.ofNat fr)), .val (.int (Int32.ofNat first)), .val (.int (Int32.ofNat last)), .val (.ref b14), .unset] [(.ref b20), (.ref b20)])) _
    refine XS.iconst X21.here hx rfl (hb hby at_126) ?_
    show Steps p.tables e below (T21.setTop (mkF m 127 #[.val (.int p1), .val (.int p2), .val (.int p3), .val (.int p4), .val (.int p5), .val (.int p6), .val (.ref b7), .val (.ref b12), .val (.int (Int32.ofNat fr)), .val (.int (Int32.ofNat first)), .val (.int (Int32.ofNat last)), .val (.ref b14), .unset] [(.int (1 : Int32)), (.ref b20), (.ref b20)])) _
    refine XS.iloadN X21.here hx rfl (hb hby at_127) rfl ?_
    show Steps p.tables e below (T21.setTop (mkF m 128 #[.val (.int p1), .val (.int p2), .val (.int p3), .val (.int p4), .val (.int p5), .val (.int p6), .val (.ref b7), .val (.ref b12), .val (.int (Int32.ofNat fr)), .val (.int (Int32.ofNat first)), .val (.int (Int32.ofNat last)), .val (.ref b14), .unset] [(.int p3), (.int (1 : Int32)), (.ref b20), (.ref b20)])) _
    refine XS.i2l X21.here hx rfl (hb hby at_128) rfl ?_
    show Steps p.tables e below (T21.setTop (mkF m 129 #[.val (.int p1), .val (.int p2), .val (.int p3), .val (.int p4), .val (.int p5), .val (.int p6), .val (.ref b7), .val (.ref b12), .val (.int (Int32.ofNat fr)), .val (.int (Int32.ofNat first)), .val (.int (Int32.ofNat last)), .val (.ref b14), .unset] [(.long (p3.toInt64)), (.int (1 : Int32)), (.ref b20), (.ref b20)])) _
    refine st22 _ ?_
    show Steps p.tables e below (T22.setTop (mkF m 130 #[.val (.int p1), .val (.int p2), .val (.int p3), .val (.int p4), .val (.int p5), .val (.int p6), .val (.ref b7), .val (.ref b12), .val (.int (Int32.ofNat fr)), .val (.int (Int32.ofNat first)), .val (.int (Int32.ofNat last)), .val (.ref b14), .unset] [(.ref b20)])) _
    refine XS.dup X22.here hx rfl (hb hby at_130) rfl rfl ?_
    show Steps p.tables e below (T22.setTop (mkF m 131 #[.val (.int p1), .val (.int p2), .val (.int p3), .val (.int p4), .val (.int p5), .val (.int p6), .val (.ref b7), .val (.ref b12), .val (.int (Int32.ofNat fr)), .val (.int (Int32.ofNat first)), .val (.int (Int32.ofNat last)), .val (.ref b14), .unset] [(.ref b20), (.ref b20)])) _
    refine XS.iconst X22.here hx rfl (hb hby at_131) ?_
    show Steps p.tables e below (T22.setTop (mkF m 132 #[.val (.int p1), .val (.int p2), .val (.int p3), .val (.int p4), .val (.int p5), .val (.int p6), .val (.ref b7), .val (.ref b12), .val (.int (Int32.ofNat fr)), .val (.int (Int32.ofNat first)), .val (.int (Int32.ofNat last)), .val (.ref b14), .unset] [(.int (2 : Int32)), (.ref b20), (.ref b20)])) _
    refine XS.iloadN X22.here hx rfl (hb hby at_132) rfl ?_
    show Steps p.tables e below (T22.setTop (mkF m 133 #[.val (.int p1), .val (.int p2), .val (.int p3), .val (.int p4), .val (.int p5), .val (.int p6), .val (.ref b7), .val (.ref b12), .val (.int (Int32.ofNat fr)), .val (.int (Int32.ofNat first)), .val (.int (Int32.ofNat last)), .val (.ref b14), .unset] [(.int p3), (.int (2 : Int32)), (.ref b20), (.ref b20)])) _
    refine XS.i2l X22.here hx rfl (hb hby at_133) rfl ?_
    show Steps p.tables e below (T22.setTop (mkF m 134 #[.val (.int p1), .val (.int p2), .val (.int p3), .val (.int p4), .val (.int p5), .val (.int p6), .val (.ref b7), .val (.ref b12), .val (.int (Int32.ofNat fr)), .val (.int (Int32.ofNat first)), .val (.int (Int32.ofNat last)), .val (.ref b14), .unset] [(.long (p3.toInt64)), (.int (2 : Int32)), (.ref b20), (.ref b20)])) _
    refine XS.iloadN X22.here hx rfl (hb hby at_134) rfl ?_
    show Steps p.tables e below (T22.setTop (mkF m 135 #[.val (.int p1), .val (.int p2), .val (.int p3), .val (.int p4), .val (.int p5), .val (.int p6), .val (.ref b7), .val (.ref b12), .val (.int (Int32.ofNat fr)), .val (.int (Int32.ofNat first)), .val (.int (Int32.ofNat last)), .val (.ref b14), .unset] [(.int p4), (.long (p3.toInt64)), (.int (2 : Int32)), (.ref b20), (.ref b20)])) _
    refine XS.i2l X22.here hx rfl (hb hby at_135) rfl ?_
    show Steps p.tables e below (T22.setTop (mkF m 136 #[.val (.int p1), .val (.int p2), .val (.int p3), .val (.int p4), .val (.int p5), .val (.int p6), .val (.ref b7), .val (.ref b12), .val (.int (Int32.ofNat fr)), .val (.int (Int32.ofNat first)), .val (.int (Int32.ofNat last)), .val (.ref b14), .unset] [(.long (p4.toInt64)), (.long (p3.toInt64)), (.int (2 : Int32)), (.ref b20), (.ref b20)])) _
    refine XS.ladd X22.here hx rfl (hb hby at_136) rfl ?_
    show Steps p.tables e below (T22.setTop (mkF m 137 #[.val (.int p1), .val (.int p2), .val (.int p3), .val (.int p4), .val (.int p5), .val (.int p6), .val (.ref b7), .val (.ref b12), .val (.int (Int32.ofNat fr)), .val (.int (Int32.ofNat first)), .val (.int (Int32.ofNat last)), .val (.ref b14), .unset] [(.long ((p3.toInt64) + (p4.toInt64))), (.int (2 : Int32)), (.ref b20), (.ref b20)])) _
    refine st23 _ ?_
    show Steps p.tables e below (T23.setTop (mkF m 138 #[.val (.int p1), .val (.int p2), .val (.int p3), .val (.int p4), .val (.int p5), .val (.int p6), .val (.ref b7), .val (.ref b12), .val (.int (Int32.ofNat fr)), .val (.int (Int32.ofNat first)), .val (.int (Int32.ofNat last)), .val (.ref b14), .unset] [(.ref b20)])) _
    refine XS.dup X23.here hx rfl (hb hby at_138) rfl rfl ?_
    show Steps p.tables e below (T23.setTop (mkF m 139 #[.val (.int p1), .val (.int p2), .val (.int p3), .val (.int p4), .val (.int p5), .val (.int p6), .val (.ref b7), .val (.ref b12), .val (.int (Int32.ofNat fr)), .val (.int (Int32.ofNat first)), .val (.int (Int32.ofNat last)), .val (.ref b14), .unset] [(.ref b20), (.ref b20)])) _
    refine XS.iconst X23.here hx rfl (hb hby at_139) ?_
    show Steps p.tables e below (T23.setTop (mkF m 140 #[.val (.int p1), .val (.int p2), .val (.int p3), .val (.int p4), .val (.int p5), .val (.int p6), .val (.ref b7), .val (.ref b12), .val (.int (Int32.ofNat fr)), .val (.int (Int32.ofNat first)), .val (.int (Int32.ofNat last)), .val (.ref b14), .unset] [(.int (3 : Int32)), (.ref b20), (.ref b20)])) _
    refine XS.iloadN X23.here hx rfl (hb hby at_140) rfl ?_
    show Steps p.tables e below (T23.setTop (mkF m 141 #[.val (.int p1), .val (.int p2), .val (.int p3), .val (.int p4), .val (.int p5), .val (.int p6), .val (.ref b7), .val (.ref b12), .val (.int (Int32.ofNat fr)), .val (.int (Int32.ofNat first)), .val (.int (Int32.ofNat last)), .val (.ref b14), .unset] [(.int p3), (.int (3 : Int32)), (.ref b20), (.ref b20)])) _
    refine XS.i2l X23.here hx rfl (hb hby at_141) rfl ?_
    show Steps p.tables e below (T23.setTop (mkF m 142 #[.val (.int p1), .val (.int p2), .val (.int p3), .val (.int p4), .val (.int p5), .val (.int p6), .val (.ref b7), .val (.ref b12), .val (.int (Int32.ofNat fr)), .val (.int (Int32.ofNat first)), .val (.int (Int32.ofNat last)), .val (.ref b14), .unset] [(.long (p3.toInt64)), (.int (3 : Int32)), (.ref b20), (.ref b20)])) _
    refine XS.iloadN X23.here hx rfl (hb hby at_142) rfl ?_
    show Steps p.tables e below (T23.setTop (mkF m 143 #[.val (.int p1), .val (.int p2), .val (.int p3), .val (.int p4), .val (.int p5), .val (.int p6), .val (.ref b7), .val (.ref b12), .val (.int (Int32.ofNat fr)), .val (.int (Int32.ofNat first)), .val (.int (Int32.ofNat last)), .val (.ref b14), .unset] [(.int p4), (.long (p3.toInt64)), (.int (3 : Int32)), (.ref b20), (.ref b20)])) _
    refine XS.i2l X23.here hx rfl (hb hby at_143) rfl ?_
    show Steps p.tables e below (T23.setTop (mkF m 144 #[.val (.int p1), .val (.int p2), .val (.int p3), .val (.int p4), .val (.int p5), .val (.int p6), .val (.ref b7), .val (.ref b12), .val (.int (Int32.ofNat fr)), .val (.int (Int32.ofNat first)), .val (.int (Int32.ofNat last)), .val (.ref b14), .unset] [(.long (p4.toInt64)), (.long (p3.toInt64)), (.int (3 : Int32)), (.ref b20), (.ref b20)])) _
    refine XS.ladd X23.here hx rfl (hb hby at_144) rfl ?_
    show Steps p.tables e below (T23.setTop (mkF m 145 #[.val (.int p1), .val (.int p2), .val (.int p3), .val (.int p4), .val (.int p5), .val (.int p6), .val (.ref b7), .val (.ref b12), .val (.int (Int32.ofNat fr)), .val (.int (Int32.ofNat first)), .val (.int (Int32.ofNat last)), .val (.ref b14), .unset] [(.long ((p3.toInt64) + (p4.toInt64))), (.int (3 : Int32)), (.ref b20), (.ref b20)])) _
    refine XS.iload X23.here hx rfl (hb hby at_145) rfl ?_
    show Steps p.tables e below (T23.setTop (mkF m 147 #[.val (.int p1), .val (.int p2), .val (.int p3), .val (.int p4), .val (.int p5), .val (.int p6), .val (.ref b7), .val (.ref b12), .val (.int (Int32.ofNat fr)), .val (.int (Int32.ofNat first)), .val (.int (Int32.ofNat last)), .val (.ref b14), .unset] [(.int p5), (.long ((p3.toInt64) + (p4.toInt64))), (.int (3 : Int32)), (.ref b20), (.ref b20)])) _
    refine XS.i2l X23.here hx rfl (hb hby at_147) rfl ?_
    show Steps p.tables e below (T23.setTop (mkF m 148 #[.val (.int p1), .val (.int p2), .val (.int p3), .val (.int p4), .val (.int p5), .val (.int p6), .val (.ref b7), .val (.ref b12), .val (.int (Int32.ofNat fr)), .val (.int (Int32.ofNat first)), .val (.int (Int32.ofNat last)), .val (.ref b14), .unset] [(.long (p5.toInt64)), (.long ((p3.toInt64) + (p4.toInt64))), (.int (3 : Int32)), (.ref b20), (.ref b20)])) _
    refine XS.ladd X23.here hx rfl (hb hby at_148) rfl ?_
    show Steps p.tables e below (T23.setTop (mkF m 149 #[.val (.int p1), .val (.int p2), .val (.int p3), .val (.int p4), .val (.int p5), .val (.int p6), .val (.ref b7), .val (.ref b12), .val (.int (Int32.ofNat fr)), .val (.int (Int32.ofNat first)), .val (.int (Int32.ofNat last)), .val (.ref b14), .unset] [(.long (((p3.toInt64) + (p4.toInt64)) + (p5.toInt64))), (.int (3 : Int32)), (.ref b20), (.ref b20)])) _
    refine st24 _ ?_
    show Steps p.tables e below (T24.setTop (mkF m 150 #[.val (.int p1), .val (.int p2), .val (.int p3), .val (.int p4), .val (.int p5), .val (.int p6), .val (.ref b7), .val (.ref b12), .val (.int (Int32.ofNat fr)), .val (.int (Int32.ofNat first)), .val (.int (Int32.ofNat last)), .val (.ref b14), .unset] [(.ref b20)])) _
    refine XS.dup X24.here hx rfl (hb hby at_150) rfl rfl ?_
    show Steps p.tables e below (T24.setTop (mkF m 151 #[.val (.int p1), .val (.int p2), .val (.int p3), .val (.int p4), .val (.int p5), .val (.int p6), .val (.ref b7), .val (.ref b12), .val (.int (Int32.ofNat fr)), .val (.int (Int32.ofNat first)), .val (.int (Int32.ofNat last)), .val (.ref b14), .unset] [(.ref b20), (.ref b20)])) _
    refine XS.iconst X24.here hx rfl (hb hby at_151) ?_
    show Steps p.tables e below (T24.setTop (mkF m 152 #[.val (.int p1), .val (.int p2), .val (.int p3), .val (.int p4), .val (.int p5), .val (.int p6), .val (.ref b7), .val (.ref b12), .val (.int (Int32.ofNat fr)), .val (.int (Int32.ofNat first)), .val (.int (Int32.ofNat last)), .val (.ref b14), .unset] [(.int (4 : Int32)), (.ref b20), (.ref b20)])) _
    refine XS.iloadN X24.here hx rfl (hb hby at_152) rfl ?_
    show Steps p.tables e below (T24.setTop (mkF m 153 #[.val (.int p1), .val (.int p2), .val (.int p3), .val (.int p4), .val (.int p5), .val (.int p6), .val (.ref b7), .val (.ref b12), .val (.int (Int32.ofNat fr)), .val (.int (Int32.ofNat first)), .val (.int (Int32.ofNat last)), .val (.ref b14), .unset] [(.int p3), (.int (4 : Int32)), (.ref b20), (.ref b20)])) _
    refine XS.i2l X24.here hx rfl (hb hby at_153) rfl ?_
    show Steps p.tables e below (T24.setTop (mkF m 154 #[.val (.int p1), .val (.int p2), .val (.int p3), .val (.int p4), .val (.int p5), .val (.int p6), .val (.ref b7), .val (.ref b12), .val (.int (Int32.ofNat fr)), .val (.int (Int32.ofNat first)), .val (.int (Int32.ofNat last)), .val (.ref b14), .unset] [(.long (p3.toInt64)), (.int (4 : Int32)), (.ref b20), (.ref b20)])) _
    refine XS.iloadN X24.here hx rfl (hb hby at_154) rfl ?_
    show Steps p.tables e below (T24.setTop (mkF m 155 #[.val (.int p1), .val (.int p2), .val (.int p3), .val (.int p4), .val (.int p5), .val (.int p6), .val (.ref b7), .val (.ref b12), .val (.int (Int32.ofNat fr)), .val (.int (Int32.ofNat first)), .val (.int (Int32.ofNat last)), .val (.ref b14), .unset] [(.int p4), (.long (p3.toInt64)), (.int (4 : Int32)), (.ref b20), (.ref b20)])) _
    refine XS.i2l X24.here hx rfl (hb hby at_155) rfl ?_
    show Steps p.tables e below (T24.setTop (mkF m 156 #[.val (.int p1), .val (.int p2), .val (.int p3), .val (.int p4), .val (.int p5), .val (.int p6), .val (.ref b7), .val (.ref b12), .val (.int (Int32.ofNat fr)), .val (.int (Int32.ofNat first)), .val (.int (Int32.ofNat last)), .val (.ref b14), .unset] [(.long (p4.toInt64)), (.long (p3.toInt64)), (.int (4 : Int32)), (.ref b20), (.ref b20)])) _
    refine XS.ladd X24.here hx rfl (hb hby at_156) rfl ?_
    show Steps p.tables e below (T24.setTop (mkF m 157 #[.val (.int p1), .val (.int p2), .val (.int p3), .val (.int p4), .val (.int p5), .val (.int p6), .val (.ref b7), .val (.ref b12), .val (.int (Int32.ofNat fr)), .val (.int (Int32.ofNat first)), .val (.int (Int32.ofNat last)), .val (.ref b14), .unset] [(.long ((p3.toInt64) + (p4.toInt64))), (.int (4 : Int32)), (.ref b20), (.ref b20)])) _
    refine XS.iload X24.here hx rfl (hb hby at_157) rfl ?_
    show Steps p.tables e below (T24.setTop (mkF m 159 #[.val (.int p1), .val (.int p2), .val (.int p3), .val (.int p4), .val (.int p5), .val (.int p6), .val (.ref b7), .val (.ref b12), .val (.int (Int32.ofNat fr)), .val (.int (Int32.ofNat first)), .val (.int (Int32.ofNat last)), .val (.ref b14), .unset] [(.int p5), (.long ((p3.toInt64) + (p4.toInt64))), (.int (4 : Int32)), (.ref b20), (.ref b20)])) _
    refine XS.i2l X24.here hx rfl (hb hby at_159) rfl ?_
    show Steps p.tables e below (T24.setTop (mkF m 160 #[.val (.int p1), .val (.int p2), .val (.int p3), .val (.int p4), .val (.int p5), .val (.int p6), .val (.ref b7), .val (.ref b12), .val (.int (Int32.ofNat fr)), .val (.int (Int32.ofNat first)), .val (.int (Int32.ofNat last)), .val (.ref b14), .unset] [(.long (p5.toInt64)), (.long ((p3.toInt64) + (p4.toInt64))), (.int (4 : Int32)), (.ref b20), (.ref b20)])) _
    refine XS.ladd X24.here hx rfl (hb hby at_160) rfl ?_
    show Steps p.tables e below (T24.setTop (mkF m 161 #[.val (.int p1), .val (.int p2), .val (.int p3), .val (.int p4), .val (.int p5), .val (.int p6), .val (.ref b7), .val (.ref b12), .val (.int (Int32.ofNat fr)), .val (.int (Int32.ofNat first)), .val (.int (Int32.ofNat last)), .val (.ref b14), .unset] [(.long (((p3.toInt64) + (p4.toInt64)) + (p5.toInt64))), (.int (4 : Int32)), (.ref b20), (.ref b20)])) _
    refine XS.iload X24.here hx rfl (hb hby at_161) rfl ?_
    show Steps p.tables e below (T24.setTop (mkF m 163 #[.val (.int p1), .val (.int p2), .val (.int p3), .val (.int p4), .val (.int p5), .val (.int p6), .val (.ref b7), .val (.ref b12), .val (.int (Int32.ofNat fr)), .val (.int (Int32.ofNat first)), .val (.int (Int32.ofNat last)), .val (.ref b14), .unset] [(.int p6), (.long (((p3.toInt64) + (p4.toInt64)) + (p5.toInt64))), (.int (4 : Int32)), (.ref b20), (.ref b20)])) _
    refine XS.i2l X24.here hx rfl (hb hby at_163) rfl ?_
    show Steps p.tables e below (T24.setTop (mkF m 164 #[.val (.int p1), .val (.int p2), .val (.int p3), .val (.int p4), .val (.int p5), .val (.int p6), .val (.ref b7), .val (.ref b12), .val (.int (Int32.ofNat fr)), .val (.int (Int32.ofNat first)), .val (.int (Int32.ofNat last)), .val (.ref b14), .unset] [(.long (p6.toInt64)), (.long (((p3.toInt64) + (p4.toInt64)) + (p5.toInt64))), (.int (4 : Int32)), (.ref b20), (.ref b20)])) _
    refine XS.ladd X24.here hx rfl (hb hby at_164) rfl ?_
    show Steps p.tables e below (T24.setTop (mkF m 165 #[.val (.int p1), .val (.int p2), .val (.int p3), .val (.int p4), .val (.int p5), .val (.int p6), .val (.ref b7), .val (.ref b12), .val (.int (Int32.ofNat fr)), .val (.int (Int32.ofNat first)), .val (.int (Int32.ofNat last)), .val (.ref b14), .unset] [(.long ((((p3.toInt64) + (p4.toInt64)) + (p5.toInt64)) + (p6.toInt64))), (.int (4 : Int32)), (.ref b20), (.ref b20)])) _
    refine st25 _ ?_
    show Steps p.tables e below (T25.setTop (mkF m 166 #[.val (.int p1), .val (.int p2), .val (.int p3), .val (.int p4), .val (.int p5), .val (.int p6), .val (.ref b7), .val (.ref b12), .val (.int (Int32.ofNat fr)), .val (.int (Int32.ofNat first)), .val (.int (Int32.ofNat last)), .val (.ref b14), .unset] [(.ref b20)])) _
    refine XS.astore X25.here hx rfl (hb hby at_166) rfl rfl (l' := #[.val (.int p1), .val (.int p2), .val (.int p3), .val (.int p4), .val (.int p5), .val (.int p6), .val (.ref b7), .val (.ref b12), .val (.int (Int32.ofNat fr)), .val (.int (Int32.ofNat first)), .val (.int (Int32.ofNat last)), .val (.ref b14), .val (.ref b20)]) rfl ?_
    show Steps p.tables e below (T25.setTop (mkF m 168 #[.val (.int p1), .val (.int p2), .val (.int p3), .val (.int p4), .val (.int p5), .val (.int p6), .val (.ref b7), .val (.ref b12), .val (.int (Int32.ofNat fr)), .val (.int (Int32.ofNat first)), .val (.int (Int32.ofNat last)), .val (.ref b14), .val (.ref b20)] [])) _
    refine XS.aload X25.here hx rfl (hb hby at_168) rfl rfl ?_
    show Steps p.tables e below (T25.setTop (mkF m 170 #[.val (.int p1), .val (.int p2), .val (.int p3), .val (.int p4), .val (.int p5), .val (.int p6), .val (.ref b7), .val (.ref b12), .val (.int (Int32.ofNat fr)), .val (.int (Int32.ofNat first)), .val (.int (Int32.ofNat last)), .val (.ref b14), .val (.ref b20)] [(.ref b14)])) _
    refine XS.iconst X25.here hx rfl (hb hby at_170) ?_
    show Steps p.tables e below (T25.setTop (mkF m 171 #[.val (.int p1), .val (.int p2), .val (.int p3), .val (.int p4), .val (.int p5), .val (.int p6), .val (.ref b7), .val (.ref b12), .val (.int (Int32.ofNat fr)), .val (.int (Int32.ofNat first)), .val (.int (Int32.ofNat last)), .val (.ref b14), .val (.ref b20)] [(.int (1 : Int32)), (.ref b14)])) _
    refine XS.iloadN X25.here hx rfl (hb hby at_171) rfl ?_
    show Steps p.tables e below (T25.setTop (mkF m 172 #[.val (.int p1), .val (.int p2), .val (.int p3), .val (.int p4), .val (.int p5), .val (.int p6), .val (.ref b7), .val (.ref b12), .val (.int (Int32.ofNat fr)), .val (.int (Int32.ofNat first)), .val (.int (Int32.ofNat last)), .val (.ref b14), .val (.ref b20)] [(.int p1), (.int (1 : Int32)), (.ref b14)])) _
    refine XS.iload X25.here hx rfl (hb hby at_172) rfl ?_
    show Steps p.tables e below (T25.setTop (mkF m 174 #[.val (.int p1), .val (.int p2), .val (.int p3), .val (.int p4), .val (.int p5), .val (.int p6), .val (.ref b7), .val (.ref b12), .val (.int (Int32.ofNat fr)), .val (.int (Int32.ofNat first)), .val (.int (Int32.ofNat last)), .val (.ref b14), .val (.ref b20)] [(.int (Int32.ofNat fr)), (.int p1), (.int (1 : Int32)), (.ref b14)])) _
    refine XS.iload X25.here hx rfl (hb hby at_174) rfl ?_
    show Steps p.tables e below (T25.setTop (mkF m 176 #[.val (.int p1), .val (.int p2), .val (.int p3), .val (.int p4), .val (.int p5), .val (.int p6), .val (.ref b7), .val (.ref b12), .val (.int (Int32.ofNat fr)), .val (.int (Int32.ofNat first)), .val (.int (Int32.ofNat last)), .val (.ref b14), .val (.ref b20)] [(.int (Int32.ofNat first)), (.int (Int32.ofNat fr)), (.int p1), (.int (1 : Int32)), (.ref b14)])) _
    refine XS.iload X25.here hx rfl (hb hby at_176) rfl ?_
    show Steps p.tables e below (T25.setTop (mkF m 178 #[.val (.int p1), .val (.int p2), .val (.int p3), .val (.int p4), .val (.int p5), .val (.int p6), .val (.ref b7), .val (.ref b12), .val (.int (Int32.ofNat fr)), .val (.int (Int32.ofNat first)), .val (.int (Int32.ofNat last)), .val (.ref b14), .val (.ref b20)] [(.int (Int32.ofNat last)), (.int (Int32.ofNat first)), (.int (Int32.ofNat fr)), (.int p1), (.int (1 : Int32)), (.ref b14)])) _
    refine XS.aload X25.here hx rfl (hb hby at_178) rfl rfl ?_
    show Steps p.tables e below (T25.setTop (mkF m 180 #[.val (.int p1), .val (.int p2), .val (.int p3), .val (.int p4), .val (.int p5), .val (.int p6), .val (.ref b7), .val (.ref b12), .val (.int (Int32.ofNat fr)), .val (.int (Int32.ofNat first)), .val (.int (Int32.ofNat last)), .val (.ref b14), .val (.ref b20)] [(.ref b20), (.int (Int32.ofNat last)), (.int (Int32.ofNat first)), (.int (Int32.ofNat fr)), (.int p1), (.int (1 : Int32)), (.ref b14)])) _
    refine X25.ldc2DoubleC hx hown (mvT hZ (hw _ (List.mem_of_getElem? (i := 19) rfl))) (g := (mkF m 180 #[.val (.int p1), .val (.int p2), .val (.int p3), .val (.int p4), .val (.int p5), .val (.int p6), .val (.ref b7), .val (.ref b12), .val (.int (Int32.ofNat fr)), .val (.int (Int32.ofNat first)), .val (.int (Int32.ofNat last)), .val (.ref b14), .val (.ref b20)] [(.ref b20), (.int (Int32.ofNat last)), (.int (Int32.ofNat first)), (.int (Int32.ofNat fr)), (.int p1), (.int (1 : Int32)), (.ref b14)])) rfl (hb hby at_180) _ ?_
    show Steps p.tables e below (T25.setTop (mkF m 183 #[.val (.int p1), .val (.int p2), .val (.int p3), .val (.int p4), .val (.int p5), .val (.int p6), .val (.ref b7), .val (.ref b12), .val (.int (Int32.ofNat fr)), .val (.int (Int32.ofNat first)), .val (.int (Int32.ofNat last)), .val (.ref b14), .val (.ref b20)] [(.double (4602678819172646912 : UInt64)), (.ref b20), (.int (Int32.ofNat last)), (.int (Int32.ofNat first)), (.int (Int32.ofNat fr)), (.int p1), (.int (1 : Int32)), (.ref b14)])) _
    refine st26 _ ?_
    show Steps p.tables e below (T26.setTop (mkF m 186 #[.val (.int p1), .val (.int p2), .val (.int p3), .val (.int p4), .val (.int p5), .val (.int p6), .val (.ref b7), .val (.ref b12), .val (.int (Int32.ofNat fr)), .val (.int (Int32.ofNat first)), .val (.int (Int32.ofNat last)), .val (.ref b14), .val (.ref b20)] [(.int (1 : Int32))])) _
    refine XS.ifNo X26.here hx rfl (hb hby at_186) rfl ((if0 _ _).trans (feq hq1).1) ?_
    show Steps p.tables e below (T26.setTop (mkF m 189 #[.val (.int p1), .val (.int p2), .val (.int p3), .val (.int p4), .val (.int p5), .val (.int p6), .val (.ref b7), .val (.ref b12), .val (.int (Int32.ofNat fr)), .val (.int (Int32.ofNat first)), .val (.int (Int32.ofNat last)), .val (.ref b14), .val (.ref b20)] [])) _
    refine XS.aload X26.here hx rfl (hb hby at_189) rfl rfl ?_
    show Steps p.tables e below (T26.setTop (mkF m 191 #[.val (.int p1), .val (.int p2), .val (.int p3), .val (.int p4), .val (.int p5), .val (.int p6), .val (.ref b7), .val (.ref b12), .val (.int (Int32.ofNat fr)), .val (.int (Int32.ofNat first)), .val (.int (Int32.ofNat last)), .val (.ref b14), .val (.ref b20)] [(.ref b14)])) _
    refine XS.iconst X26.here hx rfl (hb hby at_191) ?_
    show Steps p.tables e below (T26.setTop (mkF m 192 #[.val (.int p1), .val (.int p2), .val (.int p3), .val (.int p4), .val (.int p5), .val (.int p6), .val (.ref b7), .val (.ref b12), .val (.int (Int32.ofNat fr)), .val (.int (Int32.ofNat first)), .val (.int (Int32.ofNat last)), .val (.ref b14), .val (.ref b20)] [(.int (2 : Int32)), (.ref b14)])) _
    refine XS.iloadN X26.here hx rfl (hb hby at_192) rfl ?_
    show Steps p.tables e below (T26.setTop (mkF m 193 #[.val (.int p1), .val (.int p2), .val (.int p3), .val (.int p4), .val (.int p5), .val (.int p6), .val (.ref b7), .val (.ref b12), .val (.int (Int32.ofNat fr)), .val (.int (Int32.ofNat first)), .val (.int (Int32.ofNat last)), .val (.ref b14), .val (.ref b20)] [(.int p1), (.int (2 : Int32)), (.ref b14)])) _
    refine XS.iload X26.here hx rfl (hb hby at_193) rfl ?_
    show Steps p.tables e below (T26.setTop (mkF m 195 #[.val (.int p1), .val (.int p2), .val (.int p3), .val (.int p4), .val (.int p5), .val (.int p6), .val (.ref b7), .val (.ref b12), .val (.int (Int32.ofNat fr)), .val (.int (Int32.ofNat first)), .val (.int (Int32.ofNat last)), .val (.ref b14), .val (.ref b20)] [(.int (Int32.ofNat fr)), (.int p1), (.int (2 : Int32)), (.ref b14)])) _
    refine XS.iload X26.here hx rfl (hb hby at_195) rfl ?_
    show Steps p.tables e below (T26.setTop (mkF m 197 #[.val (.int p1), .val (.int p2), .val (.int p3), .val (.int p4), .val (.int p5), .val (.int p6), .val (.ref b7), .val (.ref b12), .val (.int (Int32.ofNat fr)), .val (.int (Int32.ofNat first)), .val (.int (Int32.ofNat last)), .val (.ref b14), .val (.ref b20)] [(.int (Int32.ofNat first)), (.int (Int32.ofNat fr)), (.int p1), (.int (2 : Int32)), (.ref b14)])) _
    refine XS.iload X26.here hx rfl (hb hby at_197) rfl ?_
    show Steps p.tables e below (T26.setTop (mkF m 199 #[.val (.int p1), .val (.int p2), .val (.int p3), .val (.int p4), .val (.int p5), .val (.int p6), .val (.ref b7), .val (.ref b12), .val (.int (Int32.ofNat fr)), .val (.int (Int32.ofNat first)), .val (.int (Int32.ofNat last)), .val (.ref b14), .val (.ref b20)] [(.int (Int32.ofNat last)), (.int (Int32.ofNat first)), (.int (Int32.ofNat fr)), (.int p1), (.int (2 : Int32)), (.ref b14)])) _
    refine XS.aload X26.here hx rfl (hb hby at_199) rfl rfl ?_
    show Steps p.tables e below (T26.setTop (mkF m 201 #[.val (.int p1), .val (.int p2), .val (.int p3), .val (.int p4), .val (.int p5), .val (.int p6), .val (.ref b7), .val (.ref b12), .val (.int (Int32.ofNat fr)), .val (.int (Int32.ofNat first)), .val (.int (Int32.ofNat last)), .val (.ref b14), .val (.ref b20)] [(.ref b20), (.int (Int32.ofNat last)), (.int (Int32.ofNat first)), (.int (Int32.ofNat fr)), (.int p1), (.int (2 : Int32)), (.ref b14)])) _
    refine X26.ldc2DoubleC hx hown (mvT hZ (hw _ (List.mem_of_getElem? (i := 20) rfl))) (g := (mkF m 201 #[.val (.int p1), .val (.int p2), .val (.int p3), .val (.int p4), .val (.int p5), .val (.int p6), .val (.ref b7), .val (.ref b12), .val (.int (Int32.ofNat fr)), .val (.int (Int32.ofNat first)), .val (.int (Int32.ofNat last)), .val (.ref b14), .val (.ref b20)] [(.ref b20), (.int (Int32.ofNat last)), (.int (Int32.ofNat first)), (.int (Int32.ofNat fr)), (.int p1), (.int (2 : Int32)), (.ref b14)])) rfl (hb hby at_201) _ ?_
    show Steps p.tables e below (T26.setTop (mkF m 204 #[.val (.int p1), .val (.int p2), .val (.int p3), .val (.int p4), .val (.int p5), .val (.int p6), .val (.ref b7), .val (.ref b12), .val (.int (Int32.ofNat fr)), .val (.int (Int32.ofNat first)), .val (.int (Int32.ofNat last)), .val (.ref b14), .val (.ref b20)] [(.double (4609434218613702656 : UInt64)), (.ref b20), (.int (Int32.ofNat last)), (.int (Int32.ofNat first)), (.int (Int32.ofNat fr)), (.int p1), (.int (2 : Int32)), (.ref b14)])) _
    refine st27 _ ?_
    show Steps p.tables e below (T27.setTop (mkF m 207 #[.val (.int p1), .val (.int p2), .val (.int p3), .val (.int p4), .val (.int p5), .val (.int p6), .val (.ref b7), .val (.ref b12), .val (.int (Int32.ofNat fr)), .val (.int (Int32.ofNat first)), .val (.int (Int32.ofNat last)), .val (.ref b14), .val (.ref b20)] [(.int (1 : Int32))])) _
    refine XS.ifNo X27.here hx rfl (hb hby at_207) rfl ((if0 _ _).trans (feq hq1).1) ?_
    show Steps p.tables e below (T27.setTop (mkF m 210 #[.val (.int p1), .val (.int p2), .val (.int p3), .val (.int p4), .val (.int p5), .val (.int p6), .val (.ref b7), .val (.ref b12), .val (.int (Int32.ofNat fr)), .val (.int (Int32.ofNat first)), .val (.int (Int32.ofNat last)), .val (.ref b14), .val (.ref b20)] [])) _
    refine XS.aload X27.here hx rfl (hb hby at_210) rfl rfl ?_
    show Steps p.tables e below (T27.setTop (mkF m 212 #[.val (.int p1), .val (.int p2), .val (.int p3), .val (.int p4), .val (.int p5), .val (.int p6), .val (.ref b7), .val (.ref b12), .val (.int (Int32.ofNat fr)), .val (.int (Int32.ofNat first)), .val (.int (Int32.ofNat last)), .val (.ref b14), .val (.ref b20)] [(.ref b14)])) _
    refine XS.iconst X27.here hx rfl (hb hby at_212) ?_
    show Steps p.tables e below (T27.setTop (mkF m 213 #[.val (.int p1), .val (.int p2), .val (.int p3), .val (.int p4), .val (.int p5), .val (.int p6), .val (.ref b7), .val (.ref b12), .val (.int (Int32.ofNat fr)), .val (.int (Int32.ofNat first)), .val (.int (Int32.ofNat last)), .val (.ref b14), .val (.ref b20)] [(.int (3 : Int32)), (.ref b14)])) _
    refine XS.iloadN X27.here hx rfl (hb hby at_213) rfl ?_
    show Steps p.tables e below (T27.setTop (mkF m 214 #[.val (.int p1), .val (.int p2), .val (.int p3), .val (.int p4), .val (.int p5), .val (.int p6), .val (.ref b7), .val (.ref b12), .val (.int (Int32.ofNat fr)), .val (.int (Int32.ofNat first)), .val (.int (Int32.ofNat last)), .val (.ref b14), .val (.ref b20)] [(.int p1), (.int (3 : Int32)), (.ref b14)])) _
    refine XS.iload X27.here hx rfl (hb hby at_214) rfl ?_
    show Steps p.tables e below (T27.setTop (mkF m 216 #[.val (.int p1), .val (.int p2), .val (.int p3), .val (.int p4), .val (.int p5), .val (.int p6), .val (.ref b7), .val (.ref b12), .val (.int (Int32.ofNat fr)), .val (.int (Int32.ofNat first)), .val (.int (Int32.ofNat last)), .val (.ref b14), .val (.ref b20)] [(.int (Int32.ofNat fr)), (.int p1), (.int (3 : Int32)), (.ref b14)])) _
    refine XS.iload X27.here hx rfl (hb hby at_216) rfl ?_
    show Steps p.tables e below (T27.setTop (mkF m 218 #[.val (.int p1), .val (.int p2), .val (.int p3), .val (.int p4), .val (.int p5), .val (.int p6), .val (.ref b7), .val (.ref b12), .val (.int (Int32.ofNat fr)), .val (.int (Int32.ofNat first)), .val (.int (Int32.ofNat last)), .val (.ref b14), .val (.ref b20)] [(.int (Int32.ofNat first)), (.int (Int32.ofNat fr)), (.int p1), (.int (3 : Int32)), (.ref b14)])) _
    refine XS.iload X27.here hx rfl (hb hby at_218) rfl ?_
    show Steps p.tables e below (T27.setTop (mkF m 220 #[.val (.int p1), .val (.int p2), .val (.int p3), .val (.int p4), .val (.int p5), .val (.int p6), .val (.ref b7), .val (.ref b12), .val (.int (Int32.ofNat fr)), .val (.int (Int32.ofNat first)), .val (.int (Int32.ofNat last)), .val (.ref b14), .val (.ref b20)] [(.int (Int32.ofNat last)), (.int (Int32.ofNat first)), (.int (Int32.ofNat fr)), (.int p1), (.int (3 : Int32)), (.ref b14)])) _
    refine XS.aload X27.here hx rfl (hb hby at_220) rfl rfl ?_
    show Steps p.tables e below (T27.setTop (mkF m 222 #[.val (.int p1), .val (.int p2), .val (.int p3), .val (.int p4), .val (.int p5), .val (.int p6), .val (.ref b7), .val (.ref b12), .val (.int (Int32.ofNat fr)), .val (.int (Int32.ofNat first)), .val (.int (Int32.ofNat last)), .val (.ref b14), .val (.ref b20)] [(.ref b20), (.int (Int32.ofNat last)), (.int (Int32.ofNat first)), (.int (Int32.ofNat fr)), (.int p1), (.int (3 : Int32)), (.ref b14)])) _
    refine X27.ldc2DoubleC hx hown (mvT hZ (hw _ (List.mem_of_getElem? (i := 21) rfl))) (g := (mkF m 222 #[.val (.int p1), .val (.int p2), .val (.int p3), .val (.int p4), .val (.int p5), .val (.int p6), .val (.ref b7), .val (.ref b12), .val (.int (Int32.ofNat fr)), .val (.int (Int32.ofNat first)), .val (.int (Int32.ofNat last)), .val (.ref b14), .val (.ref b20)] [(.ref b20), (.int (Int32.ofNat last)), (.int (Int32.ofNat first)), (.int (Int32.ofNat fr)), (.int p1), (.int (3 : Int32)), (.ref b14)])) rfl (hb hby at_222) _ ?_
    show Steps p.tables e below (T27.setTop (mkF m 225 #[.val (.int p1), .val (.int p2), .val (.int p3), .val (.int p4), .val (.int p5), .val (.int p6), .val (.ref b7), .val (.ref b12), .val (.int (Int32.ofNat fr)), .val (.int (Int32.ofNat first)), .val (.int (Int32.ofNat last)), .val (.ref b14), .val (.ref b20)] [(.double (4612811918334230528 : UInt64)), (.ref b20), (.int (Int32.ofNat last)), (.int (Int32.ofNat first)), (.int (Int32.ofNat fr)), (.int p1), (.int (3 : Int32)), (.ref b14)])) _
    refine st28 _ ?_
    show Steps p.tables e below (T28.setTop (mkF m 228 #[.val (.int p1), .val (.int p2), .val (.int p3), .val (.int p4), .val (.int p5), .val (.int p6), .val (.ref b7), .val (.ref b12), .val (.int (Int32.ofNat fr)), .val (.int (Int32.ofNat first)), .val (.int (Int32.ofNat last)), .val (.ref b14), .val (.ref b20)] [(.int (1 : Int32))])) _
    refine XS.ifNo X28.here hx rfl (hb hby at_228) rfl ((if0 _ _).trans (feq hq1).1) ?_
    show Steps p.tables e below (T28.setTop (mkF m 231 #[.val (.int p1), .val (.int p2), .val (.int p3), .val (.int p4), .val (.int p5), .val (.int p6), .val (.ref b7), .val (.ref b12), .val (.int (Int32.ofNat fr)), .val (.int (Int32.ofNat first)), .val (.int (Int32.ofNat last)), .val (.ref b14), .val (.ref b20)] [])) _
    refine XS.aload X28.here hx rfl (hb hby at_231) rfl rfl ?_
    show Steps p.tables e below (T28.setTop (mkF m 233 #[.val (.int p1), .val (.int p2), .val (.int p3), .val (.int p4), .val (.int p5), .val (.int p6), .val (.ref b7), .val (.ref b12), .val (.int (Int32.ofNat fr)), .val (.int (Int32.ofNat first)), .val (.int (Int32.ofNat last)), .val (.ref b14), .val (.ref b20)] [(.ref b14)])) _
    refine XS.iconst X28.here hx rfl (hb hby at_233) ?_
    show Steps p.tables e below (T28.setTop (mkF m 234 #[.val (.int p1), .val (.int p2), .val (.int p3), .val (.int p4), .val (.int p5), .val (.int p6), .val (.ref b7), .val (.ref b12), .val (.int (Int32.ofNat fr)), .val (.int (Int32.ofNat first)), .val (.int (Int32.ofNat last)), .val (.ref b14), .val (.ref b20)] [(.int (4 : Int32)), (.ref b14)])) _
    refine XS.iloadN X28.here hx rfl (hb hby at_234) rfl ?_
    show Steps p.tables e below (T28.setTop (mkF m 235 #[.val (.int p1), .val (.int p2), .val (.int p3), .val (.int p4), .val (.int p5), .val (.int p6), .val (.ref b7), .val (.ref b12), .val (.int (Int32.ofNat fr)), .val (.int (Int32.ofNat first)), .val (.int (Int32.ofNat last)), .val (.ref b14), .val (.ref b20)] [(.int p1), (.int (4 : Int32)), (.ref b14)])) _
    refine XS.iload X28.here hx rfl (hb hby at_235) rfl ?_
    show Steps p.tables e below (T28.setTop (mkF m 237 #[.val (.int p1), .val (.int p2), .val (.int p3), .val (.int p4), .val (.int p5), .val (.int p6), .val (.ref b7), .val (.ref b12), .val (.int (Int32.ofNat fr)), .val (.int (Int32.ofNat first)), .val (.int (Int32.ofNat last)), .val (.ref b14), .val (.ref b20)] [(.int (Int32.ofNat fr)), (.int p1), (.int (4 : Int32)), (.ref b14)])) _
    refine XS.iload X28.here hx rfl (hb hby at_237) rfl ?_
    show Steps p.tables e below (T28.setTop (mkF m 239 #[.val (.int p1), .val (.int p2), .val (.int p3), .val (.int p4), .val (.int p5), .val (.int p6), .val (.ref b7), .val (.ref b12), .val (.int (Int32.ofNat fr)), .val (.int (Int32.ofNat first)), .val (.int (Int32.ofNat last)), .val (.ref b14), .val (.ref b20)] [(.int (Int32.ofNat first)), (.int (Int32.ofNat fr)), (.int p1), (.int (4 : Int32)), (.ref b14)])) _
    refine XS.iload X28.here hx rfl (hb hby at_239) rfl ?_
    show Steps p.tables e below (T28.setTop (mkF m 241 #[.val (.int p1), .val (.int p2), .val (.int p3), .val (.int p4), .val (.int p5), .val (.int p6), .val (.ref b7), .val (.ref b12), .val (.int (Int32.ofNat fr)), .val (.int (Int32.ofNat first)), .val (.int (Int32.ofNat last)), .val (.ref b14), .val (.ref b20)] [(.int (Int32.ofNat last)), (.int (Int32.ofNat first)), (.int (Int32.ofNat fr)), (.int p1), (.int (4 : Int32)), (.ref b14)])) _
    refine XS.aload X28.here hx rfl (hb hby at_241) rfl rfl ?_
    show Steps p.tables e below (T28.setTop (mkF m 243 #[.val (.int p1), .val (.int p2), .val (.int p3), .val (.int p4), .val (.int p5), .val (.int p6), .val (.ref b7), .val (.ref b12), .val (.int (Int32.ofNat fr)), .val (.int (Int32.ofNat first)), .val (.int (Int32.ofNat last)), .val (.ref b14), .val (.ref b20)] [(.ref b20), (.int (Int32.ofNat last)), (.int (Int32.ofNat first)), (.int (Int32.ofNat fr)), (.int p1), (.int (4 : Int32)), (.ref b14)])) _
    refine X28.ldc2DoubleC hx hown (mvT hZ (hw _ (List.mem_of_getElem? (i := 22) rfl))) (g := (mkF m 243 #[.val (.int p1), .val (.int p2), .val (.int p3), .val (.int p4), .val (.int p5), .val (.int p6), .val (.ref b7), .val (.ref b12), .val (.int (Int32.ofNat fr)), .val (.int (Int32.ofNat first)), .val (.int (Int32.ofNat last)), .val (.ref b14), .val (.ref b20)] [(.ref b20), (.int (Int32.ofNat last)), (.int (Int32.ofNat first)), (.int (Int32.ofNat fr)), (.int p1), (.int (4 : Int32)), (.ref b14)])) rfl (hb hby at_243) _ ?_
    show Steps p.tables e below (T28.setTop (mkF m 246 #[.val (.int p1), .val (.int p2), .val (.int p3), .val (.int p4), .val (.int p5), .val (.int p6), .val (.ref b7), .val (.ref b12), .val (.int (Int32.ofNat fr)), .val (.int (Int32.ofNat first)), .val (.int (Int32.ofNat last)), .val (.ref b14), .val (.ref b20)] [(.double (4615063718147915776 : UInt64)), (.ref b20), (.int (Int32.ofNat last)), (.int (Int32.ofNat first)), (.int (Int32.ofNat fr)), (.int p1), (.int (4 : Int32)), (.ref b14)])) _
    refine st29 _ ?_
    show Steps p.tables e below (T29.setTop (mkF m 249 #[.val (.int p1), .val (.int p2), .val (.int p3), .val (.int p4), .val (.int p5), .val (.int p6), .val (.ref b7), .val (.ref b12), .val (.int (Int32.ofNat fr)), .val (.int (Int32.ofNat first)), .val (.int (Int32.ofNat last)), .val (.ref b14), .val (.ref b20)] [(.int (1 : Int32))])) _
    refine XS.ifNo X29.here hx rfl (hb hby at_249) rfl ((if0 _ _).trans (feq hq1).1) ?_
    show Steps p.tables e below (T29.setTop (mkF m 252 #[.val (.int p1), .val (.int p2), .val (.int p3), .val (.int p4), .val (.int p5), .val (.int p6), .val (.ref b7), .val (.ref b12), .val (.int (Int32.ofNat fr)), .val (.int (Int32.ofNat first)), .val (.int (Int32.ofNat last)), .val (.ref b14), .val (.ref b20)] [])) _
    refine XS.iconst X29.here hx rfl (hb hby at_252) ?_
    show Steps p.tables e below (T29.setTop (mkF m 253 #[.val (.int p1), .val (.int p2), .val (.int p3), .val (.int p4), .val (.int p5), .val (.int p6), .val (.ref b7), .val (.ref b12), .val (.int (Int32.ofNat fr)), .val (.int (Int32.ofNat first)), .val (.int (Int32.ofNat last)), .val (.ref b14), .val (.ref b20)] [(.int (1 : Int32))])) _
    refine XS.goto X29.here hx rfl (pc0 := 253) (pc' := 257) rfl (hb hby at_253) (by decide) (by decide) ?_
    show Steps p.tables e below (T29.setTop (mkF m 257 #[.val (.int p1), .val (.int p2), .val (.int p3), .val (.int p4), .val (.int p5), .val (.int p6), .val (.ref b7), .val (.ref b12), .val (.int (Int32.ofNat fr)), .val (.int (Int32.ofNat first)), .val (.int (Int32.ofNat last)), .val (.ref b14), .val (.ref b20)] [(.int (1 : Int32))])) _
    exact retN X29 hx (t := .boolean) Bd.returns (by simp) (hb hby at_257) hr
  · show QL n0 _ T29.heap _
    exact ⟨rfl, N29⟩
set_option maxRecDepth 65536 in
set_option maxHeartbeats 40000000 in
theorem rm0_fffff (l : Launch) (Z : State) (a0 : Array Value) (hw : ∀ d ∈ tables_1, d.before a0 Z = true) (ws : List Jvm.Cond) (p1 : Int32) (p2 : Int32) (p3 : Int32) (p4 : Int32) (p5 : Int32) (p6 : Int32) (kk53 : Int32) (fr last : Nat) (h0 : Heap) (n0 : Nat) (Z0 : n0 ≤ h0.size) (f1 : 1 ≤ fr) (f2 : fr ≤ 4) (f3 : fr ≤ 5) (f4 : 5 ≤ 5) (f5 : last ≤ 4) (hk43 : ((1 : Int32) + (p2 &&& (3 : Int32))) = (Int32.ofNat fr)) (hk53 : ((Int32.ofNat fr) + (((p2.toUInt32 >>> ((2 : Int32) &&& 31).toUInt32).toInt32) &&& (3 : Int32))) = kk53) (hc58 : (5 : Int32) < kk53) (hk72 : ((((p2.toUInt32 >>> ((4 : Int32) &&& 31).toUInt32).toInt32) &&& (7 : Int32)) % (5 : Int32)) = (Int32.ofNat last)) (hq1 : ¬ ((1 : Int32) = (0 : Int32))) :
    MetFree l x (head1 (Jvm.Cond.code x code maxLocals ret :: ws) room_1) (fun a U => a = #[(.int p1), (.int p2), (.int p3), (.int p4), (.int p5), (.int p6)] ∧ Z.Warmed39 U.vm ∧ U.heap = h0) (fun _ _ _ _ _ => True) (fun _ U o U' => ∃ v L, o = .returned v ∧ QL n0 v U'.heap L ∧ FrameEnd U o U' L room_1.cells room_1.slots) := by
  refine MetFree.of_bodySF (plainFor_of_name pn_0) hisR ?_
  intro p e s m args below meth c s₁ Bd hml0 hP hK
  obtain ⟨rfl, hZ, hh⟩ := hP
  have hx := Bd.exec
  have hby := Bd.bytes
  have hml : c.maxLocals = 13 := hml0
  have hown : s.vm.findClass "com/example/cycle_by_chance/cyclebychance/model/DemandToDateDrawDownPinLaw" = some m.cls := findClass_of_methodNamed Bd.named
  have hnm := (name_of_methodNamed Bd.named Bd.method).1
  have X0 : Stand p l e room_1 s m #[(.int p1), (.int p2), (.int p3), (.int p4), (.int p5), (.int p6)] below meth c s₁ [] 0 0 := Stand.of_body Bd
  have e0 : s₁.heap = h0 := by rw [← hh, Bd.state]; rfl
  have N0 := Fr.nil n0
  have pre0 : ∀ t, Steps p.tables e below (s₁.setTop (mkF m 0 #[.val (.int p1), .val (.int p2), .val (.int p3), .val (.int p4), .val (.int p5), .val (.int p6), .unset, .unset, .unset, .unset, .unset, .unset, .unset] [])) t → Steps p.tables e below (s₁.setTop (entryFrame m #[(.int p1), (.int p2), (.int p3), (.int p4), (.int p5), (.int p6)] maxLocals)) t := fun t k => castTop (ef_0 m p1 p2 p3 p4 p5 p6) k
  obtain ⟨T7, h7, k7, X7, e7, E7, A7, st7⟩ := newP X0 hx hZ (hw _ (List.mem_of_getElem? (i := 0) rfl)) e0 (g := (mkF m 1 #[.val (.int p1), .val (.int p2), .val (.int p3), .val (.int p4), .val (.int p5), .val (.int p6), .unset, .unset, .unset, .unset, .unset, .unset, .unset] [(.int (4 : Int32))])) rfl (hb hby at_1) rfl (by decide) (cap := 4) (by decide) (by decide) (by decide) (by decide)
  obtain ⟨b7, g7⟩ : ∃ z, z = h0.size := ⟨_, rfl⟩
  rw [← g7] at A7 st7
  have V_b7 : Arv Z h7 b7 k7 .double (4 : Int32) [(.double (0 : UInt64)), (.double (0 : UInt64)), (.double (0 : UInt64)), (.double (0 : UInt64))] (.double (0 : UInt64)) := (Arv.new A7 (by decide)).pad (pad_rep [] (.double (0 : UInt64)) 4)
  have g_b7 : n0 ≤ b7 := Nat.le_trans Z0 (Nat.le_of_eq g7.symm)
  have sz_b7 : h0.size ≤ b7 := (Nat.le_trans (Keep.refl h0 []).1 (Nat.le_of_eq g7.symm))
  have K7 : Keep h0 h7 [] := (Keep.refl h0 []).ext E7
  obtain ⟨cl_b7_7, Ar_b7, q_b7, S_b7, N_b7, H_b7, G_b7⟩ := V_b7
  have hin7 : ¬ ((0 : Int32) < 0 ∨ cl_b7_7.slots.size ≤ ((0 : Int32)).toNatClampNeg) := inb_of S_b7 ⟨by decide, by decide⟩
  obtain ⟨T8, h8, X8, e8, W8, st8⟩ := stD X7 hx hZ e7 Ar_b7 (j := (0 : Int32)) hin7 (g := (mkF m 7 #[.val (.int p1), .val (.int p2), .val (.int p3), .val (.int p4), .val (.int p5), .val (.int p6), .unset, .unset, .unset, .unset, .unset, .unset, .unset] [(.double (FP.l2d p3.toInt64)), (.int (0 : Int32)), (.ref b7), (.ref b7)])) rfl rfl (hb hby at_7)
  have V_b7_8 := Arv.set Ar_b7 q_b7 S_b7 N_b7 H_b7 G_b7 rfl W8 0 rfl (Nat.le_of_ble_eq_true rfl)
  have K8 : Keep h0 h8 [] := K7.wr W8 (Or.inr sz_b7)
  have N8 := Fr.snoc X8 N0 g_b7
  obtain ⟨cl_b7_12, Ar_b7, q_b7, S_b7, N_b7, H_b7, G_b7⟩ := V_b7_8
  have hin12 : ¬ ((1 : Int32) < 0 ∨ cl_b7_12.slots.size ≤ ((1 : Int32)).toNatClampNeg) := inb_of S_b7 ⟨by decide, by decide⟩
  obtain ⟨T9, h9, X9, e9, W9, st9⟩ := stD X8 hx hZ e8 Ar_b7 (j := (1 : Int32)) hin12 (g := (mkF m 12 #[.val (.int p1), .val (.int p2), .val (.int p3), .val (.int p4), .val (.int p5), .val (.int p6), .unset, .unset, .unset, .unset, .unset, .unset, .unset] [(.double (FP.l2d p4.toInt64)), (.int (1 : Int32)), (.ref b7), (.ref b7)])) rfl rfl (hb hby at_12)
  have V_b7_9 := Arv.set Ar_b7 q_b7 S_b7 N_b7 H_b7 G_b7 rfl W9 1 rfl (Nat.le_of_ble_eq_true rfl)
  have K9 : Keep h0 h9 [] := K8.wr W9 (Or.inr sz_b7)
  have N9 := Fr.snoc X9 N8 g_b7
  obtain ⟨cl_b7_18, Ar_b7, q_b7, S_b7, N_b7, H_b7, G_b7⟩ := V_b7_9
  have hin18 : ¬ ((2 : Int32) < 0 ∨ cl_b7_18.slots.size ≤ ((2 : Int32)).toNatClampNeg) := inb_of S_b7 ⟨by decide, by decide⟩
  obtain ⟨T10, h10, X10, e10, W10, st10⟩ := stD X9 hx hZ e9 Ar_b7 (j := (2 : Int32)) hin18 (g := (mkF m 18 #[.val (.int p1), .val (.int p2), .val (.int p3), .val (.int p4), .val (.int p5), .val (.int p6), .unset, .unset, .unset, .unset, .unset, .unset, .unset] [(.double (FP.l2d p5.toInt64)), (.int (2 : Int32)), (.ref b7), (.ref b7)])) rfl rfl (hb hby at_18)
  have V_b7_10 := Arv.set Ar_b7 q_b7 S_b7 N_b7 H_b7 G_b7 rfl W10 2 rfl (Nat.le_of_ble_eq_true rfl)
  have K10 : Keep h0 h10 [] := K9.wr W10 (Or.inr sz_b7)
  have N10 := Fr.snoc X10 N9 g_b7
  obtain ⟨cl_b7_24, Ar_b7, q_b7, S_b7, N_b7, H_b7, G_b7⟩ := V_b7_10
  have hin24 : ¬ ((3 : Int32) < 0 ∨ cl_b7_24.slots.size ≤ ((3 : Int32)).toNatClampNeg) := inb_of S_b7 ⟨by decide, by decide⟩
  obtain ⟨T11, h11, X11, e11, W11, st11⟩ := stD X10 hx hZ e10 Ar_b7 (j := (3 : Int32)) hin24 (g := (mkF m 24 #[.val (.int p1), .val (.int p2), .val (.int p3), .val (.int p4), .val (.int p5), .val (.int p6), .unset, .unset, .unset, .unset, .unset, .unset, .unset] [(.double (FP.l2d p6.toInt64)), (.int (3 : Int32)), (.ref b7), (.ref b7)])) rfl rfl (hb hby at_24)
  have V_b7_11 := Arv.set Ar_b7 q_b7 S_b7 N_b7 H_b7 G_b7 rfl W11 3 rfl (Nat.le_of_ble_eq_true rfl)
  have K11 : Keep h0 h11 [] := K10.wr W11 (Or.inr sz_b7)
  have N11 := Fr.snoc X11 N10 g_b7
  obtain ⟨T12, h12, X12, e12, E12, A12, D12, -, st12⟩ := newO X11 hx hZ hown (hw _ (List.mem_of_getElem? (i := 1) rfl)) (hw _ (List.mem_of_getElem? (i := 2) rfl)) (hw _ (List.mem_of_getElem? (i := 3) rfl)) e11 (g := (mkF m 27 #[.val (.int p1), .val (.int p2), .val (.int p3), .val (.int p4), .val (.int p5), .val (.int p6), .val (.ref b7), .unset, .unset, .unset, .unset, .unset, .unset] [])) rfl (hb hby at_27) (by decide) (by decide)
  obtain ⟨b12, g12⟩ : ∃ z, z = h11.size := ⟨_, rfl⟩
  rw [← g12] at A12 D12 st12
  have F_demand_b12 : Fld Z h12 b12 "com/example/cycle_by_chance/cyclebychance/model/DemandToDate" "demand" "[D" .null := D12 (Or.inr (hw _ (List.mem_of_getElem? (i := 11) rfl))) (ty := (.array .double)) (by decide)
  have F_through_b12 : Fld Z h12 b12 "com/example/cycle_by_chance/cyclebychance/model/DemandToDate" "through" "[D" .null := D12 (Or.inr (hw _ (List.mem_of_getElem? (i := 13) rfl))) (ty := (.array .double)) (by decide)
  have F_summed_b12 : Fld Z h12 b12 "com/example/cycle_by_chance/cyclebychance/model/DemandToDate" "summed" "[D" .null := D12 (Or.inr (hw _ (List.mem_of_getElem? (i := 15) rfl))) (ty := (.array .double)) (by decide)
  have F_above_b12 : Fld Z h12 b12 "com/example/cycle_by_chance/cyclebychance/model/DemandToDate" "above" "[I" .null := D12 (Or.inr (hw _ (List.mem_of_getElem? (i := 18) rfl))) (ty := (.array .int)) (by decide)
  have E_b12 := A12
  have g_b12 : n0 ≤ b12 := Nat.le_trans (Nat.le_trans (Nat.le_trans (Nat.le_trans (Nat.le_trans (Nat.le_trans Z0 E7.1) (Keep.of_wr W8).1) (Keep.of_wr W9).1) (Keep.of_wr W10).1) (Keep.of_wr W11).1) (Nat.le_of_eq g12.symm)
  have sz_b12 : h0.size ≤ b12 := (Nat.le_trans K11.1 (Nat.le_of_eq g12.symm))
  have K12 : Keep h0 h12 [] := K11.ext E12
  have VD : Arv Z h11 b7 k7 .double (4 : Int32) [(.double (FP.l2d p3.toInt64)), (.double (FP.l2d p4.toInt64)), (.double (FP.l2d p5.toInt64)), (.double (FP.l2d p6.toInt64))] (.double (0 : UInt64)) := V_b7_11
  obtain ⟨clD, ArD, DD⟩ := own_D4 VD
  have nD : b7 ≠ b12 := Nat.ne_of_lt (Nat.lt_of_lt_of_eq ArD.lt g12.symm)
  have Z12 : n0 ≤ h12.size := Nat.le_trans Z0 K12.1
  obtain ⟨_, _, ⟨T13, L13, k13, n13⟩, -, X13, ⟨Lc13, hQ13, l13, y13, z13⟩, st13⟩ := X12.specialBack hx (y := (⟨"com/example/cycle_by_chance/cyclebychance/model/DemandToDate", "<init>", "([D)V"⟩ : MethodName)) rfl hown (mvT hZ (hw _ (List.mem_of_getElem? (i := 4) rfl))) (mvT hZ (hw _ (List.mem_of_getElem? (i := 5) rfl))) (mvT hZ (hw _ (List.mem_of_getElem? (i := 6) rfl))) (by decide) (backOf (W := 1) (rm1 l Z a0 hw [] b12 b7 (xx p3 p4 p5 p6) _ clD _ _ _ h12 n0 Z12 E_b12 F_demand_b12 F_through_b12 F_summed_b12 F_above_b12 g_b12 (ArD.ext E12) DD (own_xb p3 p4 p5 p6) nD) hZ (hw _ (List.mem_of_getElem? (i := 6) rfl)) (hw _ (List.mem_of_getElem? (i := 3) rfl)) (by decide) (by decide)) (g := (mkF m 33 #[.val (.int p1), .val (.int p2), .val (.int p3), .val (.int p4), .val (.int p5), .val (.int p6), .val (.ref b7), .unset, .unset, .unset, .unset, .unset, .unset] [(.ref b7), (.ref b12), (.ref b12)])) rfl (by rw [hml]; rfl) (Steps.refl _) (a := b12) (argsL := [(.ref b7)]) (rest := [(.ref b12)]) (lenOf pd_0_0 rfl) rfl (by show 2 * 0 + _ ≤ _; exact Nat.le_of_eq rfl) (hb hby at_33) (fun _ _ => ⟨rfl, e12, (by decide : 2 + 3 ≤ _), (by decide : 8 + 15 ≤ _)⟩)
  dsimp only [Pt.U, Pt.locs, Pt.cells, Pt.slots] at X13 l13 y13 z13 st13 hQ13
  subst l13 y13 z13
  obtain ⟨rfl, N13q, K13c, E13, F13⟩ := hQ13
  have N13 := Fr.app N11 N13q
  obtain ⟨T14, h14, k14, X14, e14, E14, A14, st14⟩ := newP X13 hx hZ (hw _ (List.mem_of_getElem? (i := 0) rfl)) rfl (g := (mkF m 75 #[.val (.int p1), .val (.int p2), .val (.int p3), .val (.int p4), .val (.int p5), .val (.int p6), .val (.ref b7), .val (.ref b12), .val (.int (Int32.ofNat fr)), .val (.int (5 : Int32)), .val (.int (Int32.ofNat last)), .unset, .unset] [(.int (4 : Int32))])) rfl (hb hby at_75) rfl (by decide) (cap := 4) (by decide) (by decide) (by decide) (by decide)
  obtain ⟨b14, g14⟩ : ∃ z, z = T13.heap.size := ⟨_, rfl⟩
  rw [← g14] at A14 st14
  have V_b14 : Arv Z h14 b14 k14 .double (4 : Int32) [(.double (0 : UInt64)), (.double (0 : UInt64)), (.double (0 : UInt64)), (.double (0 : UInt64))] (.double (0 : UInt64)) := (Arv.new A14 (by decide)).pad (pad_rep [] (.double (0 : UInt64)) 4)
  have g_b14 : n0 ≤ b14 := Nat.le_trans (Nat.le_trans (Nat.le_trans (Nat.le_trans (Nat.le_trans (Nat.le_trans (Nat.le_trans (Nat.le_trans Z0 E7.1) (Keep.of_wr W8).1) (Keep.of_wr W9).1) (Keep.of_wr W10).1) (Keep.of_wr W11).1) E12.1) K13c.1) (Nat.le_of_eq g14.symm)
  have sz_b14 : h0.size ≤ b14 := (Nat.le_trans (K12.trans K13c (fun y hy => Or.inr (by rw [List.mem_singleton] at hy; subst hy; exact sz_b12))).1 (Nat.le_of_eq g14.symm))
  have K14 : Keep h0 h14 [] := (K12.trans K13c (fun y hy => Or.inr (by rw [List.mem_singleton] at hy; subst hy; exact sz_b12))).ext E14
  obtain ⟨cl_b14_82, Ar_b14, q_b14, S_b14, N_b14, H_b14, G_b14⟩ := V_b14
  have hin82 : ¬ ((0 : Int32) < 0 ∨ cl_b14_82.slots.size ≤ ((0 : Int32)).toNatClampNeg) := inb_of S_b14 ⟨by decide, by decide⟩
  obtain ⟨T15, h15, X15, e15, W15, st15⟩ := stD X14 hx hZ e14 Ar_b14 (j := (0 : Int32)) hin82 (g := (mkF m 82 #[.val (.int p1), .val (.int p2), .val (.int p3), .val (.int p4), .val (.int p5), .val (.int p6), .val (.ref b7), .val (.ref b12), .val (.int (Int32.ofNat fr)), .val (.int (5 : Int32)), .val (.int (Int32.ofNat last)), .unset, .unset] [(.double (4602678819172646912 : UInt64)), (.int (0 : Int32)), (.ref b14), (.ref b14)])) rfl rfl (hb hby at_82)
  have V_b14_15 := Arv.set Ar_b14 q_b14 S_b14 N_b14 H_b14 G_b14 rfl W15 0 rfl (Nat.le_of_ble_eq_true rfl)
  have K15 : Keep h0 h15 [] := K14.wr W15 (Or.inr sz_b14)
  have N15 := Fr.snoc X15 N13 g_b14
  obtain ⟨cl_b14_88, Ar_b14, q_b14, S_b14, N_b14, H_b14, G_b14⟩ := V_b14_15
  have hin88 : ¬ ((1 : Int32) < 0 ∨ cl_b14_88.slots.size ≤ ((1 : Int32)).toNatClampNeg) := inb_of S_b14 ⟨by decide, by decide⟩
  obtain ⟨T16, h16, X16, e16, W16, st16⟩ := stD X15 hx hZ e15 Ar_b14 (j := (1 : Int32)) hin88 (g := (mkF m 88 #[.val (.int p1), .val (.int p2), .val (.int p3), .val (.int p4), .val (.int p5), .val (.int p6), .val (.ref b7), .val (.ref b12), .val (.int (Int32.ofNat fr)), .val (.int (5 : Int32)), .val (.int (Int32.ofNat last)), .unset, .unset] [(.double (4609434218613702656 : UInt64)), (.int (1 : Int32)), (.ref b14), (.ref b14)])) rfl rfl (hb hby at_88)
  have V_b14_16 := Arv.set Ar_b14 q_b14 S_b14 N_b14 H_b14 G_b14 rfl W16 1 rfl (Nat.le_of_ble_eq_true rfl)
  have K16 : Keep h0 h16 [] := K15.wr W16 (Or.inr sz_b14)
  have N16 := Fr.snoc X16 N15 g_b14
  obtain ⟨cl_b14_94, Ar_b14, q_b14, S_b14, N_b14, H_b14, G_b14⟩ := V_b14_16
  have hin94 : ¬ ((2 : Int32) < 0 ∨ cl_b14_94.slots.size ≤ ((2 : Int32)).toNatClampNeg) := inb_of S_b14 ⟨by decide, by decide⟩
  obtain ⟨T17, h17, X17, e17, W17, st17⟩ := stD X16 hx hZ e16 Ar_b14 (j := (2 : Int32)) hin94 (g := (mkF m 94 #[.val (.int p1), .val (.int p2), .val (.int p3), .val (.int p4), .val (.int p5), .val (.int p6), .val (.ref b7), .val (.ref b12), .val (.int (Int32.ofNat fr)), .val (.int (5 : Int32)), .val (.int (Int32.ofNat last)), .unset, .unset] [(.double (4612811918334230528 : UInt64)), (.int (2 : Int32)), (.ref b14), (.ref b14)])) rfl rfl (hb hby at_94)
  have V_b14_17 := Arv.set Ar_b14 q_b14 S_b14 N_b14 H_b14 G_b14 rfl W17 2 rfl (Nat.le_of_ble_eq_true rfl)
  have K17 : Keep h0 h17 [] := K16.wr W17 (Or.inr sz_b14)
  have N17 := Fr.snoc X17 N16 g_b14
  obtain ⟨cl_b14_100, Ar_b14, q_b14, S_b14, N_b14, H_b14, G_b14⟩ := V_b14_17
  have hin100 : ¬ ((3 : Int32) < 0 ∨ cl_b14_100.slots.size ≤ ((3 : Int32)).toNatClampNeg) := inb_of S_b14 ⟨by decide, by decide⟩
  obtain ⟨T18, h18, X18, e18, W18, st18⟩ := stD X17 hx hZ e17 Ar_b14 (j := (3 : Int32)) hin100 (g := (mkF m 100 #[.val (.int p1), .val (.int p2), .val (.int p3), .val (.int p4), .val (.int p5), .val (.int p6), .val (.ref b7), .val (.ref b12), .val (.int (Int32.ofNat fr)), .val (.int (5 : Int32)), .val (.int (Int32.ofNat last)), .unset, .unset] [(.double (4615063718147915776 : UInt64)), (.int (3 : Int32)), (.ref b14), (.ref b14)])) rfl rfl (hb hby at_100)
  have V_b14_18 := Arv.set Ar_b14 q_b14 S_b14 N_b14 H_b14 G_b14 rfl W18 3 rfl (Nat.le_of_ble_eq_true rfl)
  have K18 : Keep h0 h18 [] := K17.wr W18 (Or.inr sz_b14)
  have N18 := Fr.snoc X18 N17 g_b14
  have VC : Arv Z h18 b14 k14 .double (4 : Int32) [(.double (4602678819172646912 : UInt64)), (.double (4609434218613702656 : UInt64)), (.double (4612811918334230528 : UInt64)), (.double (4615063718147915776 : UInt64))] (.double (0 : UInt64)) := V_b14_18
  obtain ⟨clC, ArC, CC⟩ := own_C4 VC
  have nb12 : b12 ≠ b14 := Nat.ne_of_lt (Nat.lt_of_lt_of_eq E13.lt g14.symm)
  have AD13 := own_arrkeep (ArD.ext E12) K13c (fun q => nD (List.mem_singleton.mp q))
  have nb7 : b7 ≠ b14 := Nat.ne_of_lt (Nat.lt_of_lt_of_eq AD13.lt g14.symm)
  have AD18 := ((((AD13.ext E14).other W15 nb7).other W16 nb7).other W17 nb7).other W18 nb7
  have FD18 := ((((F13.ext E14).other W15 (Or.inl nb12)).other W16 (Or.inl nb12)).other W17 (Or.inl nb12)).other W18 (Or.inl nb12)
  have Z18 : n0 ≤ h18.size := Nat.le_trans Z0 K18.1
  obtain ⟨cq19, kq19, q19a, q19b, q19c⟩ := isOf hZ e18 ((((((E_b12.keep K13c).ext E14).wr W15).wr W16).wr W17).wr W18)
  obtain ⟨_, _, ⟨T19, L19, k19, n19⟩, -, X19, ⟨Lc19, hQ19, l19, y19, z19⟩, st19⟩ := X18.virtualBack hx (y := (⟨"com/example/cycle_by_chance/cyclebychance/model/DemandToDate", "drawDown", "(DIII[D)V"⟩ : MethodName)) (z := (⟨"com/example/cycle_by_chance/cyclebychance/model/DemandToDate", "drawDown", "(DIII[D)V"⟩ : MethodName)) hown (mvT hZ (hw _ (List.mem_of_getElem? (i := 23) rfl))) (mvT hZ (hw _ (List.mem_of_getElem? (i := 24) rfl))) (notFace_of_selects (args := #[]) (mvT hZ (hw _ (List.mem_of_getElem? (i := 26) rfl)))) (mvT hZ (hw _ (List.mem_of_getElem? (i := 26) rfl))) (mvT hZ (hw _ (List.mem_of_getElem? (i := 25) rfl))) (by decide) (backOf (W := 0) (rm3 l Z a0 hw [] b12 p1.toInt64 fr 5 last b14 b7 (xx p3 p4 p5 p6) (PP p3 p4 p5 p6) sent clD clC h18 n0 Z18 DD (own_PPs p3 p4 p5 p6) (own_PPB p3 p4 p5 p6) (own_xB p3 p4 p5 p6) (own_levB p1) f1 f2 f3 f4 f5 g_b14 nb12 nb7 FD18 AD18 ArC CC) hZ (hw _ (List.mem_of_getElem? (i := 27) rfl)) (hw _ (List.mem_of_getElem? (i := 3) rfl)) (by decide) (by decide)) q19a q19c (g := (mkF m 115 #[.val (.int p1), .val (.int p2), .val (.int p3), .val (.int p4), .val (.int p5), .val (.int p6), .val (.ref b7), .val (.ref b12), .val (.int (Int32.ofNat fr)), .val (.int (5 : Int32)), .val (.int (Int32.ofNat last)), .val (.ref b14), .unset] [(.ref b14), (.int (Int32.ofNat last)), (.int (5 : Int32)), (.int (Int32.ofNat fr)), (.double (FP.l2d p1.toInt64)), (.ref b12)])) rfl (by rw [hml]; rfl) (Steps.refl _) (argsL := [(.double (FP.l2d p1.toInt64)), (.int (Int32.ofNat fr)), (.int (5 : Int32)), (.int (Int32.ofNat last)), (.ref b14)]) (rest := []) (lenOf pd_0_2 rfl) rfl (by show 2 * 0 + _ ≤ _; exact Nat.le_of_eq rfl) (hb hby at_115) (fun _ _ => ⟨rfl, e18, (by decide : 6 + 0 ≤ _), (by decide : 27 + 0 ≤ _)⟩)
  dsimp only [Pt.U, Pt.locs, Pt.cells, Pt.slots] at X19 l19 y19 z19 st19 hQ19
  subst l19 y19 z19
  obtain ⟨rfl, N19q, K19c, clC2, ArC2, CLc⟩ := hQ19
  have N19 := Fr.app N18 N19q
  obtain ⟨T20, h20, k20, X20, e20, E20, A20, st20⟩ := newP X19 hx hZ (hw _ (List.mem_of_getElem? (i := 28) rfl)) rfl (g := (mkF m 119 #[.val (.int p1), .val (.int p2), .val (.int p3), .val (.int p4), .val (.int p5), .val (.int p6), .val (.ref b7), .val (.ref b12), .val (.int (Int32.ofNat fr)), .val (.int (5 : Int32)), .val (.int (Int32.ofNat last)), .val (.ref b14), .unset] [(.int (5 : Int32))])) rfl (hb hby at_119) rfl (by decide) (cap := 5) (by decide) (by decide) (by decide) (by decide)
  obtain ⟨b20, g20⟩ : ∃ z, z = T19.heap.size := ⟨_, rfl⟩
  rw [← g20] at A20 st20
  have V_b20 : Arv Z h20 b20 k20 .long (5 : Int32) [(.long (0 : Int64)), (.long (0 : Int64)), (.long (0 : Int64)), (.long (0 : Int64)), (.long (0 : Int64))] (.long (0 : Int64)) := (Arv.new A20 (by decide)).pad (pad_rep [] (.long (0 : Int64)) 5)
  have g_b20 : n0 ≤ b20 := Nat.le_trans (Nat.le_trans (Nat.le_trans (Nat.le_trans (Nat.le_trans (Nat.le_trans (Nat.le_trans (Nat.le_trans (Nat.le_trans (Nat.le_trans (Nat.le_trans (Nat.le_trans (Nat.le_trans (Nat.le_trans Z0 E7.1) (Keep.of_wr W8).1) (Keep.of_wr W9).1) (Keep.of_wr W10).1) (Keep.of_wr W11).1) E12.1) K13c.1) E14.1) (Keep.of_wr W15).1) (Keep.of_wr W16).1) (Keep.of_wr W17).1) (Keep.of_wr W18).1) K19c.1) (Nat.le_of_eq g20.symm)
  have sz_b20 : h0.size ≤ b20 := (Nat.le_trans (K18.trans K19c (fun y hy => Or.inr (by rw [List.mem_singleton] at hy; subst hy; exact sz_b14))).1 (Nat.le_of_eq g20.symm))
  have K20 : Keep h0 h20 [] := (K18.trans K19c (fun y hy => Or.inr (by rw [List.mem_singleton] at hy; subst hy; exact sz_b14))).ext E20
  obtain ⟨cl_b20_124, Ar_b20, q_b20, S_b20, N_b20, H_b20, G_b20⟩ := V_b20
  have hin124 : ¬ ((0 : Int32) < 0 ∨ cl_b20_124.slots.size ≤ ((0 : Int32)).toNatClampNeg) := inb_of S_b20 ⟨by decide, by decide⟩
  obtain ⟨T21, h21, X21, e21, W21, st21⟩ := stJ X20 hx hZ e20 Ar_b20 (j := (0 : Int32)) hin124 (g := (mkF m 124 #[.val (.int p1), .val (.int p2), .val (.int p3), .val (.int p4), .val (.int p5), .val (.int p6), .val (.ref b7), .val (.ref b12), .val (.int (Int32.ofNat fr)), .val (.int (5 : Int32)), .val (.int (Int32.ofNat last)), .val (.ref b14), .unset] [(.long (0 : Int64)), (.int (0 : Int32)), (.ref b20), (.ref b20)])) rfl rfl (hb hby at_124)
  have V_b20_21 := Arv.set Ar_b20 q_b20 S_b20 N_b20 H_b20 G_b20 rfl W21 0 rfl (Nat.le_of_ble_eq_true rfl)
  have K21 : Keep h0 h21 [] := K20.wr W21 (Or.inr sz_b20)
  have N21 := Fr.snoc X21 N19 g_b20
  obtain ⟨cl_b20_129, Ar_b20, q_b20, S_b20, N_b20, H_b20, G_b20⟩ := V_b20_21
  have hin129 : ¬ ((1 : Int32) < 0 ∨ cl_b20_129.slots.size ≤ ((1 : Int32)).toNatClampNeg) := inb_of S_b20 ⟨by decide, by decide⟩
  obtain ⟨T22, h22, X22, e22, W22, st22⟩ := stJ X21 hx hZ e21 Ar_b20 (j := (1 : Int32)) hin129 (g := (mkF m 129 #[.val (.int p1), .val (.int p2), .val (.int p3), .val (.int p4), .val (.int p5), .val (.int p6), .val (.ref b7), .val (.ref b12), .val (.int (Int32.ofNat fr)), .val (.int (5 : Int32)), .val (.int (Int32.ofNat last)), .val (.ref b14), .unset] [(.long (p3.toInt64)), (.int (1 : Int32)), (.ref b20), (.ref b20)])) rfl rfl (hb hby at_129)
  have V_b20_22 := Arv.set Ar_b20 q_b20 S_b20 N_b20 H_b20 G_b20 rfl W22 1 rfl (Nat.le_of_ble_eq_true rfl)
  have K22 : Keep h0 h22 [] := K21.wr W22 (Or.inr sz_b20)
  have N22 := Fr.snoc X22 N21 g_b20
  obtain ⟨cl_b20_137, Ar_b20, q_b20, S_b20, N_b20, H_b20, G_b20⟩ := V_b20_22
  have hin137 : ¬ ((2 : Int32) < 0 ∨ cl_b20_137.slots.size ≤ ((2 : Int32)).toNatClampNeg) := inb_of S_b20 ⟨by decide, by decide⟩
  obtain ⟨T23, h23, X23, e23, W23, st23⟩ := stJ X22 hx hZ e22 Ar_b20 (j := (2 : Int32)) hin137 (g := (mkF m 137 #[.val (.int p1), .val (.int p2), .val (.int p3), .val (.int p4), .val (.int p5), .val (.int p6), .val (.ref b7), .val (.ref b12), .val (.int (Int32.ofNat fr)), .val (.int (5 : Int32)), .val (.int (Int32.ofNat last)), .val (.ref b14), .unset] [(.long ((p3.toInt64) + (p4.toInt64))), (.int (2 : Int32)), (.ref b20), (.ref b20)])) rfl rfl (hb hby at_137)
  have V_b20_23 := Arv.set Ar_b20 q_b20 S_b20 N_b20 H_b20 G_b20 rfl W23 2 rfl (Nat.le_of_ble_eq_true rfl)
  have K23 : Keep h0 h23 [] := K22.wr W23 (Or.inr sz_b20)
  have N23 := Fr.snoc X23 N22 g_b20
  obtain ⟨cl_b20_149, Ar_b20, q_b20, S_b20, N_b20, H_b20, G_b20⟩ := V_b20_23
  have hin149 : ¬ ((3 : Int32) < 0 ∨ cl_b20_149.slots.size ≤ ((3 : Int32)).toNatClampNeg) := inb_of S_b20 ⟨by decide, by decide⟩
  obtain ⟨T24, h24, X24, e24, W24, st24⟩ := stJ X23 hx hZ e23 Ar_b20 (j := (3 : Int32)) hin149 (g := (mkF m 149 #[.val (.int p1), .val (.int p2), .val (.int p3), .val (.int p4), .val (.int p5), .val (.int p6), .val (.ref b7), .val (.ref b12), .val (.int (Int32.ofNat fr)), .val (.int (5 : Int32)), .val (.int (Int32.ofNat last)), .val (.ref b14), .unset] [(.long (((p3.toInt64) + (p4.toInt64)) + (p5.toInt64))), (.int (3 : Int32)), (.ref b20), (.ref b20)])) rfl rfl (hb hby at_149)
  have V_b20_24 := Arv.set Ar_b20 q_b20 S_b20 N_b20 H_b20 G_b20 rfl W24 3 rfl (Nat.le_of_ble_eq_true rfl)
  have K24 : Keep h0 h24 [] := K23.wr W24 (Or.inr sz_b20)
  have N24 := Fr.snoc X24 N23 g_b20
  obtain ⟨cl_b20_165, Ar_b20, q_b20, S_b20, N_b20, H_b20, G_b20⟩ := V_b20_24
  have hin165 : ¬ ((4 : Int32) < 0 ∨ cl_b20_165.slots.size ≤ ((4 : Int32)).toNatClampNeg) := inb_of S_b20 ⟨by decide, by decide⟩
  obtain ⟨T25, h25, X25, e25, W25, st25⟩ := stJ X24 hx hZ e24 Ar_b20 (j := (4 : Int32)) hin165 (g := (mkF m 165 #[.val (.int p1), .val (.int p2), .val (.int p3), .val (.int p4), .val (.int p5), .val (.int p6), .val (.ref b7), .val (.ref b12), .val (.int (Int32.ofNat fr)), .val (.int (5 : Int32)), .val (.int (Int32.ofNat last)), .val (.ref b14), .unset] [(.long ((((p3.toInt64) + (p4.toInt64)) + (p5.toInt64)) + (p6.toInt64))), (.int (4 : Int32)), (.ref b20), (.ref b20)])) rfl rfl (hb hby at_165)
  have V_b20_25 := Arv.set Ar_b20 q_b20 S_b20 N_b20 H_b20 G_b20 rfl W25 4 rfl (Nat.le_of_ble_eq_true rfl)
  have K25 : Keep h0 h25 [] := K24.wr W25 (Or.inr sz_b20)
  have N25 := Fr.snoc X25 N24 g_b20
  have VP : Arv Z h25 b20 k20 .long (5 : Int32) [(.long (0 : Int64)), (.long (p3.toInt64)), (.long ((p3.toInt64) + (p4.toInt64))), (.long (((p3.toInt64) + (p4.toInt64)) + (p5.toInt64))), (.long ((((p3.toInt64) + (p4.toInt64)) + (p5.toInt64)) + (p6.toInt64)))] (.long (0 : Int64)) := V_b20_25
  obtain ⟨clP, ArP25, PLp⟩ := own_P5 VP
  have nb20 : b14 ≠ b20 := Nat.ne_of_lt (Nat.lt_of_lt_of_eq ArC2.lt g20.symm)
  have C25 := (((((ArC2.ext E20).other W21 nb20).other W22 nb20).other W23 nb20).other W24 nb20).other W25 nb20
  have Z25 : n0 ≤ h25.size := Nat.le_trans Z0 K25.1
  obtain ⟨j1, j2, -⟩ := own_t f1 f2
  have in23 : ¬ ((Int32.ofNat fr - (1 : Int32)) < 0 ∨ clP.slots.size ≤ ((Int32.ofNat fr - (1 : Int32))).toNatClampNeg) := fun q => q.elim j2 (fun q => by rw [PLp.1, j1] at q; omega)
  have at23 : clP.slots[((Int32.ofNat fr - (1 : Int32))).toNatClampNeg]? = some (.long (PP p3 p4 p5 p6 (fr - 1))) := by rw [j1]; exact PLp.2 (fr - 1) (by omega)
  obtain ⟨_, _, ⟨T26, L26, k26, n26⟩, -, X26, ⟨Lc26, hQ26, l26, y26, z26⟩, st26⟩ := Jvm.LawKit.callS X25 hx (y := (⟨"com/example/cycle_by_chance/cyclebychance/model/DemandToDateDrawDownPinLaw", "ok", "([DIIIII[JD)Z"⟩ : MethodName)) hown (mvT hZ (hw _ (List.mem_of_getElem? (i := 29) rfl))) (mvT hZ (hw _ (List.mem_of_getElem? (i := 30) rfl))) (mvT hZ (hw _ (List.mem_of_getElem? (i := 31) rfl))) (mvT hZ (hw _ (List.mem_of_getElem? (i := 32) rfl))) (by decide) (backOf (W := 0) (rm4 l Z a0 hw [] b14 (1 : Int32) p1 (Int32.ofNat fr) (5 : Int32) (Int32.ofNat last) b20 (4602678819172646912 : UInt64) (PP p3 p4 p5 p6 1) clP (PP p3 p4 p5 p6 (fr - 1)) (FF (PP p3 p4 p5 p6) p1.toInt64 fr 5 last sent 0) clC2 h25 n0 Z25 ArP25 (fun q => q.elim (by decide) (fun q => by rw [PLp.1] at q; exact absurd q (by decide))) (PLp.2 1 (by decide)) in23 at23 C25 (fun q => q.elim (by decide) (fun q => by rw [CLc.1] at q; exact absurd q (by decide))) (CLc.2 0 (by decide)) (own_FFn _ _ _ _ _ _) (own_hy (PP p3 p4 p5 p6) p1.toInt64 fr 5 last 1 (by decide) (by decide) (by omega) (by omega))) hZ (hw _ (List.mem_of_getElem? (i := 32) rfl)) (hw _ (List.mem_of_getElem? (i := 31) rfl)) (by decide) (by decide)) (g := (mkF m 183 #[.val (.int p1), .val (.int p2), .val (.int p3), .val (.int p4), .val (.int p5), .val (.int p6), .val (.ref b7), .val (.ref b12), .val (.int (Int32.ofNat fr)), .val (.int (5 : Int32)), .val (.int (Int32.ofNat last)), .val (.ref b14), .val (.ref b20)] [(.double (4602678819172646912 : UInt64)), (.ref b20), (.int (Int32.ofNat last)), (.int (5 : Int32)), (.int (Int32.ofNat fr)), (.int p1), (.int (1 : Int32)), (.ref b14)])) rfl (by rw [hml]; rfl) (argsL := [(.ref b14), (.int (1 : Int32)), (.int p1), (.int (Int32.ofNat fr)), (.int (5 : Int32)), (.int (Int32.ofNat last)), (.ref b20), (.double (4602678819172646912 : UInt64))]) (rest := []) (lenOf pd_0_3 rfl) rfl (by show 2 * 0 + _ ≤ _; exact Nat.le_of_eq rfl) (hb hby at_183) (fun _ _ => ⟨rfl, e25, (by decide : 7 + 0 ≤ _), (by decide : 32 + 0 ≤ _)⟩)
  dsimp only [Pt.U, Pt.locs, Pt.cells, Pt.slots] at X26 l26 y26 z26 st26 hQ26
  subst l26 y26 z26
  obtain ⟨rfl, N26q, eh26⟩ := hQ26
  have Z26 : n0 ≤ T26.heap.size := by rw [eh26]; exact Z25
  have ArP26 : Arr Z T26.heap b20 clP .long := by rw [eh26]; exact ArP25
  have C26 : Arr Z T26.heap b14 clC2 .double := by rw [eh26]; exact C25
  have N26 := Fr.app N25 N26q
  obtain ⟨_, _, ⟨T27, L27, k27, n27⟩, -, X27, ⟨Lc27, hQ27, l27, y27, z27⟩, st27⟩ := Jvm.LawKit.callS X26 hx (y := (⟨"com/example/cycle_by_chance/cyclebychance/model/DemandToDateDrawDownPinLaw", "ok", "([DIIIII[JD)Z"⟩ : MethodName)) hown (mvT hZ (hw _ (List.mem_of_getElem? (i := 29) rfl))) (mvT hZ (hw _ (List.mem_of_getElem? (i := 30) rfl))) (mvT hZ (hw _ (List.mem_of_getElem? (i := 31) rfl))) (mvT hZ (hw _ (List.mem_of_getElem? (i := 32) rfl))) (by decide) (backOf (W := 0) (rm4 l Z a0 hw [] b14 (2 : Int32) p1 (Int32.ofNat fr) (5 : Int32) (Int32.ofNat last) b20 (4609434218613702656 : UInt64) (PP p3 p4 p5 p6 2) clP (PP p3 p4 p5 p6 (fr - 1)) (FF (PP p3 p4 p5 p6) p1.toInt64 fr 5 last sent 1) clC2 T26.heap n0 Z26 ArP26 (fun q => q.elim (by decide) (fun q => by rw [PLp.1] at q; exact absurd q (by decide))) (PLp.2 2 (by decide)) in23 at23 C26 (fun q => q.elim (by decide) (fun q => by rw [CLc.1] at q; exact absurd q (by decide))) (CLc.2 1 (by decide)) (own_FFn _ _ _ _ _ _) (own_hy (PP p3 p4 p5 p6) p1.toInt64 fr 5 last 2 (by decide) (by decide) (by omega) (by omega))) hZ (hw _ (List.mem_of_getElem? (i := 32) rfl)) (hw _ (List.mem_of_getElem? (i := 31) rfl)) (by decide) (by decide)) (g := (mkF m 204 #[.val (.int p1), .val (.int p2), .val (.int p3), .val (.int p4), .val (.int p5), .val (.int p6), .val (.ref b7), .val (.ref b12), .val (.int (Int32.ofNat fr)), .val (.int (5 : Int32)), .val (.int (Int32.ofNat last)), .val (.ref b14), .val (.ref b20)] [(.double (4609434218613702656 : UInt64)), (.ref b20), (.int (Int32.ofNat last)), (.int (5 : Int32)), (.int (Int32.ofNat fr)), (.int p1), (.int (2 : Int32)), (.ref b14)])) rfl (by rw [hml]; rfl) (argsL := [(.ref b14), (.int (2 : Int32)), (.int p1), (.int (Int32.ofNat fr)), (.int (5 : Int32)), (.int (Int32.ofNat last)), (.ref b20), (.double (4609434218613702656 : UInt64))]) (rest := []) (lenOf pd_0_3 rfl) rfl (by show 2 * 0 + _ ≤ _; exact Nat.le_of_eq rfl) (hb hby at_204) (fun _ _ => ⟨rfl, rfl, (by decide : 7 + 0 ≤ _), (by decide : 32 + 0 ≤ _)⟩)
  dsimp only [Pt.U, Pt.locs, Pt.cells, Pt.slots] at X27 l27 y27 z27 st27 hQ27
  subst l27 y27 z27
  obtain ⟨rfl, N27q, eh27⟩ := hQ27
  have Z27 : n0 ≤ T27.heap.size := by rw [eh27]; exact Z26
  have ArP27 : Arr Z T27.heap b20 clP .long := by rw [eh27]; exact ArP26
  have C27 : Arr Z T27.heap b14 clC2 .double := by rw [eh27]; exact C26
  have N27 := Fr.app N26 N27q
  obtain ⟨_, _, ⟨T28, L28, k28, n28⟩, -, X28, ⟨Lc28, hQ28, l28, y28, z28⟩, st28⟩ := Jvm.LawKit.callS X27 hx (y := (⟨"com/example/cycle_by_chance/cyclebychance/model/DemandToDateDrawDownPinLaw", "ok", "([DIIIII[JD)Z"⟩ : MethodName)) hown (mvT hZ (hw _ (List.mem_of_getElem? (i := 29) rfl))) (mvT hZ (hw _ (List.mem_of_getElem? (i := 30) rfl))) (mvT hZ (hw _ (List.mem_of_getElem? (i := 31) rfl))) (mvT hZ (hw _ (List.mem_of_getElem? (i := 32) rfl))) (by decide) (backOf (W := 0) (rm4 l Z a0 hw [] b14 (3 : Int32) p1 (Int32.ofNat fr) (5 : Int32) (Int32.ofNat last) b20 (4612811918334230528 : UInt64) (PP p3 p4 p5 p6 3) clP (PP p3 p4 p5 p6 (fr - 1)) (FF (PP p3 p4 p5 p6) p1.toInt64 fr 5 last sent 2) clC2 T27.heap n0 Z27 ArP27 (fun q => q.elim (by decide) (fun q => by rw [PLp.1] at q; exact absurd q (by decide))) (PLp.2 3 (by decide)) in23 at23 C27 (fun q => q.elim (by decide) (fun q => by rw [CLc.1] at q; exact absurd q (by decide))) (CLc.2 2 (by decide)) (own_FFn _ _ _ _ _ _) (own_hy (PP p3 p4 p5 p6) p1.toInt64 fr 5 last 3 (by decide) (by decide) (by omega) (by omega))) hZ (hw _ (List.mem_of_getElem? (i := 32) rfl)) (hw _ (List.mem_of_getElem? (i := 31) rfl)) (by decide) (by decide)) (g := (mkF m 225 #[.val (.int p1), .val (.int p2), .val (.int p3), .val (.int p4), .val (.int p5), .val (.int p6), .val (.ref b7), .val (.ref b12), .val (.int (Int32.ofNat fr)), .val (.int (5 : Int32)), .val (.int (Int32.ofNat last)), .val (.ref b14), .val (.ref b20)] [(.double (4612811918334230528 : UInt64)), (.ref b20), (.int (Int32.ofNat last)), (.int (5 : Int32)), (.int (Int32.ofNat fr)), (.int p1), (.int (3 : Int32)), (.ref b14)])) rfl (by rw [hml]; rfl) (argsL := [(.ref b14), (.int (3 : Int32)), (.int p1), (.int (Int32.ofNat fr)), (.int (5 : Int32)), (.int (Int32.ofNat last)), (.ref b20), (.double (4612811918334230528 : UInt64))]) (rest := []) (lenOf pd_0_3 rfl) rfl (by show 2 * 0 + _ ≤ _; exact Nat.le_of_eq rfl) (hb hby at_225) (fun _ _ => ⟨rfl, rfl, (by decide : 7 + 0 ≤ _), (by decide : 32 + 0 ≤ _)⟩)
  dsimp only [Pt.U, Pt.locs, Pt.cells, Pt.slots] at X28 l28 y28 z28 st28 hQ28
  subst l28 y28 z28
  obtain ⟨rfl, N28q, eh28⟩ := hQ28
  have Z28 : n0 ≤ T28.heap.size := by rw [eh28]; exact Z27
  have ArP28 : Arr Z T28.heap b20 clP .long := by rw [eh28]; exact ArP27
  have C28 : Arr Z T28.heap b14 clC2 .double := by rw [eh28]; exact C27
  have N28 := Fr.app N27 N28q
  obtain ⟨_, _, ⟨T29, L29, k29, n29⟩, -, X29, ⟨Lc29, hQ29, l29, y29, z29⟩, st29⟩ := Jvm.LawKit.callS X28 hx (y := (⟨"com/example/cycle_by_chance/cyclebychance/model/DemandToDateDrawDownPinLaw", "ok", "([DIIIII[JD)Z"⟩ : MethodName)) hown (mvT hZ (hw _ (List.mem_of_getElem? (i := 29) rfl))) (mvT hZ (hw _ (List.mem_of_getElem? (i := 30) rfl))) (mvT hZ (hw _ (List.mem_of_getElem? (i := 31) rfl))) (mvT hZ (hw _ (List.mem_of_getElem? (i := 32) rfl))) (by decide) (backOf (W := 0) (rm4 l Z a0 hw [] b14 (4 : Int32) p1 (Int32.ofNat fr) (5 : Int32) (Int32.ofNat last) b20 (4615063718147915776 : UInt64) (PP p3 p4 p5 p6 4) clP (PP p3 p4 p5 p6 (fr - 1)) (FF (PP p3 p4 p5 p6) p1.toInt64 fr 5 last sent 3) clC2 T28.heap n0 Z28 ArP28 (fun q => q.elim (by decide) (fun q => by rw [PLp.1] at q; exact absurd q (by decide))) (PLp.2 4 (by decide)) in23 at23 C28 (fun q => q.elim (by decide) (fun q => by rw [CLc.1] at q; exact absurd q (by decide))) (CLc.2 3 (by decide)) (own_FFn _ _ _ _ _ _) (own_hy (PP p3 p4 p5 p6) p1.toInt64 fr 5 last 4 (by decide) (by decide) (by omega) (by omega))) hZ (hw _ (List.mem_of_getElem? (i := 32) rfl)) (hw _ (List.mem_of_getElem? (i := 31) rfl)) (by decide) (by decide)) (g := (mkF m 246 #[.val (.int p1), .val (.int p2), .val (.int p3), .val (.int p4), .val (.int p5), .val (.int p6), .val (.ref b7), .val (.ref b12), .val (.int (Int32.ofNat fr)), .val (.int (5 : Int32)), .val (.int (Int32.ofNat last)), .val (.ref b14), .val (.ref b20)] [(.double (4615063718147915776 : UInt64)), (.ref b20), (.int (Int32.ofNat last)), (.int (5 : Int32)), (.int (Int32.ofNat fr)), (.int p1), (.int (4 : Int32)), (.ref b14)])) rfl (by rw [hml]; rfl) (argsL := [(.ref b14), (.int (4 : Int32)), (.int p1), (.int (Int32.ofNat fr)), (.int (5 : Int32)), (.int (Int32.ofNat last)), (.ref b20), (.double (4615063718147915776 : UInt64))]) (rest := []) (lenOf pd_0_3 rfl) rfl (by show 2 * 0 + _ ≤ _; exact Nat.le_of_eq rfl) (hb hby at_246) (fun _ _ => ⟨rfl, rfl, (by decide : 7 + 0 ≤ _), (by decide : 32 + 0 ≤ _)⟩)
  dsimp only [Pt.U, Pt.locs, Pt.cells, Pt.slots] at X29 l29 y29 z29 st29 hQ29
  subst l29 y29 z29
  obtain ⟨rfl, N29q, eh29⟩ := hQ29
  have N29 := Fr.app N28 N29q
  obtain ⟨fs, hr, hrun, hended, hW, hsame⟩ := X29.leave (v := some (.int (1 : Int32))) (fun h => by rw [Bd.returns] at h; cases h)
  refine ⟨_, _, pre0 _ ?_, hrun, hended, _, _, rfl, ?_, ⟨_, rfl⟩, hW, hsame.mono (by decide) (by decide)⟩
  · show Steps p.tables e below (s₁.setTop (mkF m 0 #[.val (.int p1), .val (.int p2), .val (.int p3), .val (.int p4), .val (.int p5), .val (.int p6), .unset, .unset, .unset, .unset, .unset, .unset, .unset] [])) _
    refine XS.iconst X0.here hx rfl (hb hby at_0) ?_
    show Steps p.tables e below (s₁.setTop (mkF m 1 #[.val (.int p1), .val (.int p2), .val (.int p3), .val (.int p4), .val (.int p5), .val (.int p6), .unset, .unset, .unset, .unset, .unset, .unset, .unset] [(.int (4 : Int32))])) _
    refine st7 _ ?_
    show Steps p.tables e below (T7.setTop (mkF m 3 #[.val (.int p1), .val (.int p2), .val (.int p3), .val (.int p4), .val (.int p5), .val (.int p6), .unset, .unset, .unset, .unset, .unset, .unset, .unset] [(.ref b7)])) _
    refine XS.dup X7.here hx rfl (hb hby at_3) rfl rfl ?_
    show Steps p.tables e below (T7.setTop (mkF m 4 #[.val (.int p1), .val (.int p2), .val (.int p3), .val (.int p4), .val (.int p5), .val (.int p6), .unset, .unset, .unset, .unset, .unset, .unset, .unset] [(.ref b7), (.ref b7)])) _
    refine XS.iconst X7.here hx rfl (hb hby at_4) ?_
    show Steps p.tables e below (T7.setTop (mkF m 5 #[.val (.int p1), .val (.int p2), .val (.int p3), .val (.int p4), .val (.int p5), .val (.int p6), .unset, .unset, .unset, .unset, .unset, .unset, .unset] [(.int (0 : Int32)), (.ref b7), (.ref b7)])) _
    refine XS.iloadN X7.here hx rfl (hb hby at_5) rfl ?_
    show Steps p.tables e below (T7.setTop (mkF m 6 #[.val (.int p1), .val (.int p2), .val (.int p3), .val (.int p4), .val (.int p5), .val (.int p6), .unset, .unset, .unset, .unset, .unset, .unset, .unset] [(.int p3), (.int (0 : Int32)), (.ref b7), (.ref b7)])) _
    refine XS.i2dS X7.here hx rfl (hb hby at_6) rfl (i2d_w p3) ?_
    show Steps p.tables e below (T7.setTop (mkF m 7 #[.val (.int p1), .val (.int p2), .val (.int p3), .val (.int p4), .val (.int p5), .val (.int p6), .unset, .unset, .unset, .unset, .unset, .unset, .unset] [(.double (FP.l2d p3.toInt64)), (.int (0 : Int32)), (.ref b7), (.ref b7)])) _
    refine st8 _ ?_
    show Steps p.tables e below (T8.setTop (mkF m 8 #[.val (.int p1), .val (.int p2), .val (.int p3), .val (.int p4), .val (.int p5), .val (.int p6), .unset, .unset, .unset, .unset, .unset, .unset, .unset] [(.ref b7)])) _
    refine XS.dup X8.here hx rfl (hb hby at_8) rfl rfl ?_
    show Steps p.tables e below (T8.setTop (mkF m 9 #[.val (.int p1), .val (.int p2), .val (.int p3), .val (.int p4), .val (.int p5), .val (.int p6), .unset, .unset, .unset, .unset, .unset, .unset, .unset] [(.ref b7), (.ref b7)])) _
    refine XS.iconst X8.here hx rfl (hb hby at_9) ?_
    show Steps p.tables e below (T8.setTop (mkF m 10 #[.val (.int p1), .val (.int p2), .val (.int p3), .val (.int p4), .val (.int p5), .val (.int p6), .unset, .unset, .unset, .unset, .unset, .unset, .unset] [(.int (1 : Int32)), (.ref b7), (.ref b7)])) _
    refine XS.iloadN X8.here hx rfl (hb hby at_10) rfl ?_
    show Steps p.tables e below (T8.setTop (mkF m 11 #[.val (.int p1), .val (.int p2), .val (.int p3), .val (.int p4), .val (.int p5), .val (.int p6), .unset, .unset, .unset, .unset, .unset, .unset, .unset] [(.int p4), (.int (1 : Int32)), (.ref b7), (.ref b7)])) _
    refine XS.i2dS X8.here hx rfl (hb hby at_11) rfl (i2d_w p4) ?_
    show Steps p.tables e below (T8.setTop (mkF m 12 #[.val (.int p1), .val (.int p2), .val (.int p3), .val (.int p4), .val (.int p5), .val (.int p6), .unset, .unset, .unset, .unset, .unset, .unset, .unset] [(.double (FP.l2d p4.toInt64)), (.int (1 : Int32)), (.ref b7), (.ref b7)])) _
    refine st9 _ ?_
    show Steps p.tables e below (T9.setTop (mkF m 13 #[.val (.int p1), .val (.int p2), .val (.int p3), .val (.int p4), .val (.int p5), .val (.int p6), .unset, .unset, .unset, .unset, .unset, .unset, .unset] [(.ref b7)])) _
    refine XS.dup X9.here hx rfl (hb hby at_13) rfl rfl ?_
    show Steps p.tables e below (T9.setTop (mkF m 14 #[.val (.int p1), .val (.int p2), .val (.int p3), .val (.int p4), .val (.int p5), .val (.int p6), .unset, .unset, .unset, .unset, .unset, .unset, .unset] [(.ref b7), (.ref b7)])) _
    refine XS.iconst X9.here hx rfl (hb hby at_14) ?_
    show Steps p.tables e below (T9.setTop (mkF m 15 #[.val (.int p1), .val (.int p2), .val (.int p3), .val (.int p4), .val (.int p5), .val (.int p6), .unset, .unset, .unset, .unset, .unset, .unset, .unset] [(.int (2 : Int32)), (.ref b7), (.ref b7)])) _
    refine XS.iload X9.here hx rfl (hb hby at_15) rfl ?_
    show Steps p.tables e below (T9.setTop (mkF m 17 #[.val (.int p1), .val (.int p2), .val (.int p3), .val (.int p4), .val (.int p5), .val (.int p6), .unset, .unset, .unset, .unset, .unset, .unset, .unset] [(.int p5), (.int (2 : Int32)), (.ref b7), (.ref b7)])) _
    refine XS.i2dS X9.here hx rfl (hb hby at_17) rfl (i2d_w p5) ?_
    show Steps p.tables e below (T9.setTop (mkF m 18 #[.val (.int p1), .val (.int p2), .val (.int p3), .val (.int p4), .val (.int p5), .val (.int p6), .unset, .unset, .unset, .unset, .unset, .unset, .unset] [(.double (FP.l2d p5.toInt64)), (.int (2 : Int32)), (.ref b7), (.ref b7)])) _
    refine st10 _ ?_
    show Steps p.tables e below (T10.setTop (mkF m 19 #[.val (.int p1), .val (.int p2), .val (.int p3), .val (.int p4), .val (.int p5), .val (.int p6), .unset, .unset, .unset, .unset, .unset, .unset, .unset] [(.ref b7)])) _
    refine XS.dup X10.here hx rfl (hb hby at_19) rfl rfl ?_
    show Steps p.tables e below (T10.setTop (mkF m 20 #[.val (.int p1), .val (.int p2), .val (.int p3), .val (.int p4), .val (.int p5), .val (.int p6), .unset, .unset, .unset, .unset, .unset, .unset, .unset] [(.ref b7), (.ref b7)])) _
    refine XS.iconst X10.here hx rfl (hb hby at_20) ?_
    show Steps p.tables e below (T10.setTop (mkF m 21 #[.val (.int p1), .val (.int p2), .val (.int p3), .val (.int p4), .val (.int p5), .val (.int p6), .unset, .unset, .unset, .unset, .unset, .unset, .unset] [(.int (3 : Int32)), (.ref b7), (.ref b7)])) _
    refine XS.iload X10.here hx rfl (hb hby at_21) rfl ?_
    show Steps p.tables e below (T10.setTop (mkF m 23 #[.val (.int p1), .val (.int p2), .val (.int p3), .val (.int p4), .val (.int p5), .val (.int p6), .unset, .unset, .unset, .unset, .unset, .unset, .unset] [(.int p6), (.int (3 : Int32)), (.ref b7), (.ref b7)])) _
    refine XS.i2dS X10.here hx rfl (hb hby at_23) rfl (i2d_w p6) ?_
    show Steps p.tables e below (T10.setTop (mkF m 24 #[.val (.int p1), .val (.int p2), .val (.int p3), .val (.int p4), .val (.int p5), .val (.int p6), .unset, .unset, .unset, .unset, .unset, .unset, .unset] [(.double (FP.l2d p6.toInt64)), (.int (3 : Int32)), (.ref b7), (.ref b7)])) _
    refine st11 _ ?_
    show Steps p.tables e below (T11.setTop (mkF m 25 #[.val (.int p1), .val (.int p2), .val (.int p3), .val (.int p4), .val (.int p5), .val (.int p6), .unset, .unset, .unset, .unset, .unset, .unset, .unset] [(.ref b7)])) _
    refine XS.astore X11.here hx rfl (hb hby at_25) rfl rfl (l' := #[.val (.int p1), .val (.int p2), .val (.int p3), .val (.int p4), .val (.int p5), .val (.int p6), .val (.ref b7), .unset, .unset, .unset, .unset, .unset, .unset]) rfl ?_
    show Steps p.tables e below (T11.setTop (mkF m 27 #[.val (.int p1), .val (.int p2), .val (.int p3), .val (.int p4), .val (.int p5), .val (.int p6), .val (.ref b7), .unset, .unset, .unset, .unset, .unset, .unset] [])) _
    refine st12 _ ?_
    show Steps p.tables e below (T12.setTop (mkF m 30 #[.val (.int p1), .val (.int p2), .val (.int p3), .val (.int p4), .val (.int p5), .val (.int p6), .val (.ref b7), .unset, .unset, .unset, .unset, .unset, .unset] [(.ref b12)])) _
    refine XS.dup X12.here hx rfl (hb hby at_30) rfl rfl ?_
    show Steps p.tables e below (T12.setTop (mkF m 31 #[.val (.int p1), .val (.int p2), .val (.int p3), .val (.int p4), .val (.int p5), .val (.int p6), .val (.ref b7), .unset, .unset, .unset, .unset, .unset, .unset] [(.ref b12), (.ref b12)])) _
    refine XS.aload X12.here hx rfl (hb hby at_31) rfl rfl ?_
    show Steps p.tables e below (T12.setTop (mkF m 33 #[.val (.int p1), .val (.int p2), .val (.int p3), .val (.int p4), .val (.int p5), .val (.int p6), .val (.ref b7), .unset, .unset, .unset, .unset, .unset, .unset] [(.ref b7), (.ref b12), (.ref b12)])) _
    refine st13.trans ?_
    show Steps p.tables e below (T13.setTop (mkF m 36 #[.val (.int p1), .val (.int p2), .val (.int p3), .val (.int p4), .val (.int p5), .val (.int p6), .val (.ref b7), .unset, .unset, .unset, .unset, .unset, .unset] [(.ref b12)])) _
    refine XS.astore X13.here hx rfl (hb hby at_36) rfl rfl (l' := #[.val (.int p1), .val (.int p2), .val (.int p3), .val (.int p4), .val (.int p5), .val (.int p6), .val (.ref b7), .val (.ref b12), .unset, .unset, .unset, .unset, .unset]) rfl ?_
    show Steps p.tables e below (T13.setTop (mkF m 38 #[.val (.int p1), .val (.int p2), .val (.int p3), .val (.int p4), .val (.int p5), .val (.int p6), .val (.ref b7), .val (.ref b12), .unset, .unset, .unset, .unset, .unset] [])) _
    refine XS.iconst X13.here hx rfl (hb hby at_38) ?_
    show Steps p.tables e below (T13.setTop (mkF m 39 #[.val (.int p1), .val (.int p2), .val (.int p3), .val (.int p4), .val (.int p5), .val (.int p6), .val (.ref b7), .val (.ref b12), .unset, .unset, .unset, .unset, .unset] [(.int (1 : Int32))])) _
    refine XS.iloadN X13.here hx rfl (hb hby at_39) rfl ?_
    show Steps p.tables e below (T13.setTop (mkF m 40 #[.val (.int p1), .val (.int p2), .val (.int p3), .val (.int p4), .val (.int p5), .val (.int p6), .val (.ref b7), .val (.ref b12), .unset, .unset, .unset, .unset, .unset] [(.int p2), (.int (1 : Int32))])) _
    refine XS.iconst X13.here hx rfl (hb hby at_40) ?_
    show Steps p.tables e below (T13.setTop (mkF m 41 #[.val (.int p1), .val (.int p2), .val (.int p3), .val (.int p4), .val (.int p5), .val (.int p6), .val (.ref b7), .val (.ref b12), .unset, .unset, .unset, .unset, .unset] [(.int (3 : Int32)), (.int p2), (.int (1 : Int32))])) _
    refine XS.iand X13.here hx rfl (hb hby at_41) rfl ?_
    show Steps p.tables e below (T13.setTop (mkF m 42 #[.val (.int p1), .val (.int p2), .val (.int p3), .val (.int p4), .val (.int p5), .val (.int p6), .val (.ref b7), .val (.ref b12), .unset, .unset, .unset, .unset, .unset] [(.int (p2 &&& (3 : Int32))), (.int (1 : Int32))])) _
    refine XS.iadd X13.here hx rfl (hb hby at_42) rfl ?_
    show Steps p.tables e below (T13.setTop (mkF m 43 #[.val (.int p1), .val (.int p2), .val (.int p3), .val (.int p4), .val (.int p5), .val (.int p6), .val (.ref b7), .val (.ref b12), .unset, .unset, .unset, .unset, .unset] [(.int ((1 : Int32) + (p2 &&& (3 : Int32))))])) _
    refine XS.istore X13.here hx rfl (hb hby at_43) rfl (l' := #[.val (.int p1), .val (.int p2), .val (.int p3), .val (.int p4), .val (.int p5), .val (.int p6), .val (.ref b7), .val (.ref b12), .val (.int ((1 : Int32) + (p2 &&& (3 : Int32)))), .unset, .unset, .unset, .unset]) rfl ?_
    show Steps p.tables e below (T13.setTop (mkF m 45 #[.val (.int p1), .val (.int p2), .val (.int p3), .val (.int p4), .val (.int p5), .val (.int p6), .val (.ref b7), .val (.ref b12), .val (.int ((1 : Int32) + (p2 &&& (3 : Int32)))), .unset, .unset, .unset, .unset] [])) _
    rw [hk43]
    show Steps p.tables e below (T13.setTop (mkF m 45 #[.val (.int p1), .val (.int p2), .val (.int p3), .val (.int p4), .val (.int p5), .val (.int p6), .val (.ref b7), .val (.ref b12), .val (.int (Int32.ofNat fr)), .unset, .unset, .unset, .unset] [])) _
    refine XS.iload X13.here hx rfl (hb hby at_45) rfl ?_
    show Steps p.tables e below (T13.setTop (mkF m 47 #[.val (.int p1), .val (.int p2), .val (.int p3), .val (.int p4), .val (.int p5), .val (.int p6), .val (.ref b7), .val (.ref b12), .val (.int (Int32.ofNat fr)), .unset, .unset, .unset, .unset] [(.int (Int32.ofNat fr))])) _
    refine XS.iloadN X13.here hx rfl (hb hby at_47) rfl ?_
    show Steps p.tables e below (T13.setTop (mkF m 48 #[.val (.int p1), .val (.int p2), .val (.int p3), .val (.int p4), .val (.int p5), .val (.int p6), .val (.ref b7), .val (.ref b12), .val (.int (Int32.ofNat fr)), .unset, .unset, .unset, .unset] [(.int p2), (.int (Int32.ofNat fr))])) _
    refine XS.iconst X13.here hx rfl (hb hby at_48) ?_
    show Steps p.tables e below (T13.setTop (mkF m 49 #[.val (.int p1), .val (.int p2), .val (.int p3), .val (.int p4), .val (.int p5), .val (.int p6), .val (.ref b7), .val (.ref b12), .val (.int (Int32.ofNat fr)), .unset, .unset, .unset, .unset] [(.int (2 : Int32)), (.int p2), (.int (Int32.ofNat fr))])) _
    refine XS.iushr X13.here hx rfl (hb hby at_49) rfl ?_
    show Steps p.tables e below (T13.setTop (mkF m 50 #[.val (.int p1), .val (.int p2), .val (.int p3), .val (.int p4), .val (.int p5), .val (.int p6), .val (.ref b7), .val (.ref b12), .val (.int (Int32.ofNat fr)), .unset, .unset, .unset, .unset] [(.int ((p2.toUInt32 >>> ((2 : Int32) &&& 31).toUInt32).toInt32)), (.int (Int32.ofNat fr))])) _
    refine XS.iconst X13.here hx rfl (hb hby at_50) ?_
    show Steps p.tables e below (T13.setTop (mkF m 51 #[.val (.int p1), .val (.int p2), .val (.int p3), .val (.int p4), .val (.int p5), .val (.int p6), .val (.ref b7), .val (.ref b12), .val (.int (Int32.ofNat fr)), .unset, .unset, .unset, .unset] [(.int (3 : Int32)), (.int ((p2.toUInt32 >>> ((2 : Int32) &&& 31).toUInt32).toInt32)), (.int (Int32.ofNat fr))])) _
    refine XS.iand X13.here hx rfl (hb hby at_51) rfl ?_
    show Steps p.tables e below (T13.setTop (mkF m 52 #[.val (.int p1), .val (.int p2), .val (.int p3), .val (.int p4), .val (.int p5), .val (.int p6), .val (.ref b7), .val (.ref b12), .val (.int (Int32.ofNat fr)), .unset, .unset, .unset, .unset] [(.int (((p2.toUInt32 >>> ((2 : Int32) &&& 31).toUInt32).toInt32) &&& (3 : Int32))), (.int (Int32.ofNat fr))])) _
    refine XS.iadd X13.here hx rfl (hb hby at_52) rfl ?_
    show Steps p.tables e below (T13.setTop (mkF m 53 #[.val (.int p1), .val (.int p2), .val (.int p3), .val (.int p4), .val (.int p5), .val (.int p6), .val (.ref b7), .val (.ref b12), .val (.int (Int32.ofNat fr)), .unset, .unset, .unset, .unset] [(.int ((Int32.ofNat fr) + (((p2.toUInt32 >>> ((2 : Int32) &&& 31).toUInt32).toInt32) &&& (3 : Int32))))])) _
    refine XS.istore X13.here hx rfl (hb hby at_53) rfl (l' := #[.val (.int p1), .val (.int p2), .val (.int p3), .val (.int p4), .val (.int p5), .val (.int p6), .val (.ref b7), .val (.ref b12), .val (.int (Int32.ofNat fr)), .val (.int ((Int32.ofNat fr) + (((p2.toUInt32 >>> ((2 : Int32) &&& 31).toUInt32).toInt32) &&& (3 : Int32)))), .unset, .unset, .unset]) rfl ?_
    show Steps p.tables e below (T13.setTop (mkF m 55 #[.val (.int p1), .val (.int p2), .val (.int p3), .val (.int p4), .val (.int p5), .val (.int p6), .val (.ref b7), .val (.ref b12), .val (.int (Int32.ofNat fr)), .val (.int ((Int32.ofNat fr) + (((p2.toUInt32 >>> ((2 : Int32) &&& 31).toUInt32).toInt32) &&& (3 : Int32)))), .unset, .unset, .unset] [])) _
    rw [hk53]
    show Steps p.tables e below (T13.setTop (mkF m 55 #[.val (.int p1), .val (.int p2), .val (.int p3), .val (.int p4), .val (.int p5), .val (.int p6), .val (.ref b7), .val (.ref b12), .val (.int (Int32.ofNat fr)), .val (.int kk53), .unset, .unset, .unset] [])) _
    refine XS.iload X13.here hx rfl (hb hby at_55) rfl ?_
    show Steps p.tables e below (T13.setTop (mkF m 57 #[.val (.int p1), .val (.int p2), .val (.int p3), .val (.int p4), .val (.int p5), .val (.int p6), .val (.ref b7), .val (.ref b12), .val (.int (Int32.ofNat fr)), .val (.int kk53), .unset, .unset, .unset] [(.int kk53)])) _
    refine XS.iconst X13.here hx rfl (hb hby at_57) ?_
    show Steps p.tables e below (T13.setTop (mkF m 58 #[.val (.int p1), .val (.int p2), .val (.int p3), .val (.int p4), .val (.int p5), .val (.int p6), .val (.ref b7), .val (.ref b12), .val (.int (Int32.ofNat fr)), .val (.int kk53), .unset, .unset, .unset] [(.int (5 : Int32)), (.int kk53)])) _
    refine XS.icmpNo X13.here hx rfl (hb hby at_58) rfl (tlt hc58).2.2.2 ?_
    show Steps p.tables e below (T13.setTop (mkF m 61 #[.val (.int p1), .val (.int p2), .val (.int p3), .val (.int p4), .val (.int p5), .val (.int p6), .val (.ref b7), .val (.ref b12), .val (.int (Int32.ofNat fr)), .val (.int kk53), .unset, .unset, .unset] [])) _
    refine XS.iconst X13.here hx rfl (hb hby at_61) ?_
    show Steps p.tables e below (T13.setTop (mkF m 62 #[.val (.int p1), .val (.int p2), .val (.int p3), .val (.int p4), .val (.int p5), .val (.int p6), .val (.ref b7), .val (.ref b12), .val (.int (Int32.ofNat fr)), .val (.int kk53), .unset, .unset, .unset] [(.int (5 : Int32))])) _
    refine XS.istore X13.here hx rfl (hb hby at_62) rfl (l' := #[.val (.int p1), .val (.int p2), .val (.int p3), .val (.int p4), .val (.int p5), .val (.int p6), .val (.ref b7), .val (.ref b12), .val (.int (Int32.ofNat fr)), .val (.int (5 : Int32)), .unset, .unset, .unset]) rfl ?_
    show Steps p.tables e below (T13.setTop (mkF m 64 #[.val (.int p1), .val (.int p2), .val (.int p3), .val (.int p4), .val (.int p5), .val (.int p6), .val (.ref b7), .val (.ref b12), .val (.int (Int32.ofNat fr)), .val (.int (5 : Int32)), .unset, .unset, .unset] [])) _
    refine XS.iloadN X13.here hx rfl (hb hby at_64) rfl ?_
    show Steps p.tables e below (T13.setTop (mkF m 65 #[.val (.int p1), .val (.int p2), .val (.int p3), .val (.int p4), .val (.int p5), .val (.int p6), .val (.ref b7), .val (.ref b12), .val (.int (Int32.ofNat fr)), .val (.int (5 : Int32)), .unset, .unset, .unset] [(.int p2)])) _
    refine XS.iconst X13.here hx rfl (hb hby at_65) ?_
    show Steps p.tables e below (T13.setTop (mkF m 66 #[.val (.int p1), .val (.int p2), .val (.int p3), .val (.int p4), .val (.int p5), .val (.int p6), .val (.ref b7), .val (.ref b12), .val (.int (Int32.ofNat fr)), .val (.int (5 : Int32)), .unset, .unset, .unset] [(.int (4 : Int32)), (.int p2)])) _
    refine XS.iushr X13.here hx rfl (hb hby at_66) rfl ?_
    show Steps p.tables e below (T13.setTop (mkF m 67 #[.val (.int p1), .val (.int p2), .val (.int p3), .val (.int p4), .val (.int p5), .val (.int p6), .val (.ref b7), .val (.ref b12), .val (.int (Int32.ofNat fr)), .val (.int (5 : Int32)), .unset, .unset, .unset] [(.int ((p2.toUInt32 >>> ((4 : Int32) &&& 31).toUInt32).toInt32))])) _
    refine XS.bipush X13.here hx rfl (hb hby at_67) ?_
    show Steps p.tables e below (T13.setTop (mkF m 69 #[.val (.int p1), .val (.int p2), .val (.int p3), .val (.int p4), .val (.int p5), .val (.int p6), .val (.ref b7), .val (.ref b12), .val (.int (Int32.ofNat fr)), .val (.int (5 : Int32)), .unset, .unset, .unset] [(.int (7 : Int32)), (.int ((p2.toUInt32 >>> ((4 : Int32) &&& 31).toUInt32).toInt32))])) _
    refine XS.iand X13.here hx rfl (hb hby at_69) rfl ?_
    show Steps p.tables e below (T13.setTop (mkF m 70 #[.val (.int p1), .val (.int p2), .val (.int p3), .val (.int p4), .val (.int p5), .val (.int p6), .val (.ref b7), .val (.ref b12), .val (.int (Int32.ofNat fr)), .val (.int (5 : Int32)), .unset, .unset, .unset] [(.int (((p2.toUInt32 >>> ((4 : Int32) &&& 31).toUInt32).toInt32) &&& (7 : Int32)))])) _
    refine XS.iconst X13.here hx rfl (hb hby at_70) ?_
    show Steps p.tables e below (T13.setTop (mkF m 71 #[.val (.int p1), .val (.int p2), .val (.int p3), .val (.int p4), .val (.int p5), .val (.int p6), .val (.ref b7), .val (.ref b12), .val (.int (Int32.ofNat fr)), .val (.int (5 : Int32)), .unset, .unset, .unset] [(.int (5 : Int32)), (.int (((p2.toUInt32 >>> ((4 : Int32) &&& 31).toUInt32).toInt32) &&& (7 : Int32)))])) _
    refine iremM X13 hx rfl (hb hby at_71) rfl (by decide) ?_
    show Steps p.tables e below (T13.setTop (mkF m 72 #[.val (.int p1), .val (.int p2), .val (.int p3), .val (.int p4), .val (.int p5), .val (.int p6), .val (.ref b7), .val (.ref b12), .val (.int (Int32.ofNat fr)), .val (.int (5 : Int32)), .unset, .unset, .unset] [(.int ((((p2.toUInt32 >>> ((4 : Int32) &&& 31).toUInt32).toInt32) &&& (7 : Int32)) % (5 : Int32)))])) _
    refine XS.istore X13.here hx rfl (hb hby at_72) rfl (l' := #[.val (.int p1), .val (.int p2), .val (.int p3), .val (.int p4), .val (.int p5), .val (.int p6), .val (.ref b7), .val (.ref b12), .val (.int (Int32.ofNat fr)), .val (.int (5 : Int32)), .val (.int ((((p2.toUInt32 >>> ((4 : Int32) &&& 31).toUInt32).toInt32) &&& (7 : Int32)) % (5 : Int32))), .unset, .unset]) rfl ?_
    show Steps p.tables e below (T13.setTop (mkF m 74 #[.val (.int p1), .val (.int p2), .val (.int p3), .val (.int p4), .val (.int p5), .val (.int p6), .val (.ref b7), .val (.ref b12), .val (.int (Int32.ofNat fr)), .val (.int (5 : Int32)), .val (.int ((((p2.toUInt32 >>> ((4 : Int32) &&& 31).toUInt32).toInt32) &&& (7 : Int32)) % (5 : Int32))), .unset, .unset] [])) _
    rw [hk72]
    show Steps p.tables e below (T13.setTop (mkF m 74 #[.val (.int p1), .val (.int p2), .val (.int p3), .val (.int p4), .val (.int p5), .val (.int p6), .val (.ref b7), .val (.ref b12), .val (.int (Int32.ofNat fr)), .val (.int (5 : Int32)), .val (.int (Int32.ofNat last)), .unset, .unset] [])) _
    refine XS.iconst X13.here hx rfl (hb hby at_74) ?_
    show Steps p.tables e below (T13.setTop (mkF m 75 #[.val (.int p1), .val (.int p2), .val (.int p3), .val (.int p4), .val (.int p5), .val (.int p6), .val (.ref b7), .val (.ref b12), .val (.int (Int32.ofNat fr)), .val (.int (5 : Int32)), .val (.int (Int32.ofNat last)), .unset, .unset] [(.int (4 : Int32))])) _
    refine st14 _ ?_
    show Steps p.tables e below (T14.setTop (mkF m 77 #[.val (.int p1), .val (.int p2), .val (.int p3), .val (.int p4), .val (.int p5), .val (.int p6), .val (.ref b7), .val (.ref b12), .val (.int (Int32.ofNat fr)), .val (.int (5 : Int32)), .val (.int (Int32.ofNat last)), .unset, .unset] [(.ref b14)])) _
    refine XS.dup X14.here hx rfl (hb hby at_77) rfl rfl ?_
    show Steps p.tables e below (T14.setTop (mkF m 78 #[.val (.int p1), .val (.int p2), .val (.int p3), .val (.int p4), .val (.int p5), .val (.int p6), .val (.ref b7), .val (.ref b12), .val (.int (Int32.ofNat fr)), .val (.int (5 : Int32)), .val (.int (Int32.ofNat last)), .unset, .unset] [(.ref b14), (.ref b14)])) _
    refine XS.iconst X14.here hx rfl (hb hby at_78) ?_
    show Steps p.tables e below (T14.setTop (mkF m 79 #[.val (.int p1), .val (.int p2), .val (.int p3), .val (.int p4), .val (.int p5), .val (.int p6), .val (.ref b7), .val (.ref b12), .val (.int (Int32.ofNat fr)), .val (.int (5 : Int32)), .val (.int (Int32.ofNat last)), .unset, .unset] [(.int (0 : Int32)), (.ref b14), (.ref b14)])) _
    refine X14.ldc2DoubleC hx hown (mvT hZ (hw _ (List.mem_of_getElem? (i := 19) rfl))) (g := (mkF m 79 #[.val (.int p1), .val (.int p2), .val (.int p3), .val (.int p4), .val (.int p5), .val (.int p6), .val (.ref b7), .val (.ref b12), .val (.int (Int32.ofNat fr)), .val (.int (5 : Int32)), .val (.int (Int32.ofNat last)), .unset, .unset] [(.int (0 : Int32)), (.ref b14), (.ref b14)])) rfl (hb hby at_79) _ ?_
    show Steps p.tables e below (T14.setTop (mkF m 82 #[.val (.int p1), .val (.int p2), .val (.int p3), .val (.int p4), .val (.int p5), .val (.int p6), .val (.ref b7), .val (.ref b12), .val (.int (Int32.ofNat fr)), .val (.int (5 : Int32)), .val (.int (Int32.ofNat last)), .unset, .unset] [(.double (4602678819172646912 : UInt64)), (.int (0 : Int32)), (.ref b14), (.ref b14)])) _
    refine st15 _ ?_
    show Steps p.tables e below (T15.setTop (mkF m 83 #[.val (.int p1), .val (.int p2), .val (.int p3), .val (.int p4), .val (.int p5), .val (.int p6), .val (.ref b7), .val (.ref b12), .val (.int (Int32.ofNat fr)), .val (.int (5 : Int32)), .val (.int (Int32.ofNat last)), .unset, .unset] [(.ref b14)])) _
    refine XS.dup X15.here hx rfl (hb hby at_83) rfl rfl ?_
    show Steps p.tables e below (T15.setTop (mkF m 84 #[.val (.int p1), .val (.int p2), .val (.int p3), .val (.int p4), .val (.int p5), .val (.int p6), .val (.ref b7), .val (.ref b12), .val (.int (Int32.ofNat fr)), .val (.int (5 : Int32)), .val (.int (Int32.ofNat last)), .unset, .unset] [(.ref b14), (.ref b14)])) _
    refine XS.iconst X15.here hx rfl (hb hby at_84) ?_
    show Steps p.tables e below (T15.setTop (mkF m 85 #[.val (.int p1), .val (.int p2), .val (.int p3), .val (.int p4), .val (.int p5), .val (.int p6), .val (.ref b7), .val (.ref b12), .val (.int (Int32.ofNat fr)), .val (.int (5 : Int32)), .val (.int (Int32.ofNat last)), .unset, .unset] [(.int (1 : Int32)), (.ref b14), (.ref b14)])) _
    refine X15.ldc2DoubleC hx hown (mvT hZ (hw _ (List.mem_of_getElem? (i := 20) rfl))) (g := (mkF m 85 #[.val (.int p1), .val (.int p2), .val (.int p3), .val (.int p4), .val (.int p5), .val (.int p6), .val (.ref b7), .val (.ref b12), .val (.int (Int32.ofNat fr)), .val (.int (5 : Int32)), .val (.int (Int32.ofNat last)), .unset, .unset] [(.int (1 : Int32)), (.ref b14), (.ref b14)])) rfl (hb hby at_85) _ ?_
    show Steps p.tables e below (T15.setTop (mkF m 88 #[.val (.int p1), .val (.int p2), .val (.int p3), .val (.int p4), .val (.int p5), .val (.int p6), .val (.ref b7), .val (.ref b12), .val (.int (Int32.ofNat fr)), .val (.int (5 : Int32)), .val (.int (Int32.ofNat last)), .unset, .unset] [(.double (4609434218613702656 : UInt64)), (.int (1 : Int32)), (.ref b14), (.ref b14)])) _
    refine st16 _ ?_
    show Steps p.tables e below (T16.setTop (mkF m 89 #[.val (.int p1), .val (.int p2), .val (.int p3), .val (.int p4), .val (.int p5), .val (.int p6), .val (.ref b7), .val (.ref b12), .val (.int (Int32.ofNat fr)), .val (.int (5 : Int32)), .val (.int (Int32.ofNat last)), .unset, .unset] [(.ref b14)])) _
    refine XS.dup X16.here hx rfl (hb hby at_89) rfl rfl ?_
    show Steps p.tables e below (T16.setTop (mkF m 90 #[.val (.int p1), .val (.int p2), .val (.int p3), .val (.int p4), .val (.int p5), .val (.int p6), .val (.ref b7), .val (.ref b12), .val (.int (Int32.ofNat fr)), .val (.int (5 : Int32)), .val (.int (Int32.ofNat last)), .unset, .unset] [(.ref b14), (.ref b14)])) _
    refine XS.iconst X16.here hx rfl (hb hby at_90) ?_
    show Steps p.tables e below (T16.setTop (mkF m 91 #[.val (.int p1), .val (.int p2), .val (.int p3), .val (.int p4), .val (.int p5), .val (.int p6), .val (.ref b7), .val (.ref b12), .val (.int (Int32.ofNat fr)), .val (.int (5 : Int32)), .val (.int (Int32.ofNat last)), .unset, .unset] [(.int (2 : Int32)), (.ref b14), (.ref b14)])) _
    refine X16.ldc2DoubleC hx hown (mvT hZ (hw _ (List.mem_of_getElem? (i := 21) rfl))) (g := (mkF m 91 #[.val (.int p1), .val (.int p2), .val (.int p3), .val (.int p4), .val (.int p5), .val (.int p6), .val (.ref b7), .val (.ref b12), .val (.int (Int32.ofNat fr)), .val (.int (5 : Int32)), .val (.int (Int32.ofNat last)), .unset, .unset] [(.int (2 : Int32)), (.ref b14), (.ref b14)])) rfl (hb hby at_91) _ ?_
    show Steps p.tables e below (T16.setTop (mkF m 94 #[.val (.int p1), .val (.int p2), .val (.int p3), .val (.int p4), .val (.int p5), .val (.int p6), .val (.ref b7), .val (.ref b12), .val (.int (Int32.ofNat fr)), .val (.int (5 : Int32)), .val (.int (Int32.ofNat last)), .unset, .unset] [(.double (4612811918334230528 : UInt64)), (.int (2 : Int32)), (.ref b14), (.ref b14)])) _
    refine st17 _ ?_
    show Steps p.tables e below (T17.setTop (mkF m 95 #[.val (.int p1), .val (.int p2), .val (.int p3), .val (.int p4), .val (.int p5), .val (.int p6), .val (.ref b7), .val (.ref b12), .val (.int (Int32.ofNat fr)), .val (.int (5 : Int32)), .val (.int (Int32.ofNat last)), .unset, .unset] [(.ref b14)])) _
    refine XS.dup X17.here hx rfl (hb hby at_95) rfl rfl ?_
    show Steps p.tables e below (T17.setTop (mkF m 96 #[.val (.int p1), .val (.int p2), .val (.int p3), .val (.int p4), .val (.int p5), .val (.int p6), .val (.ref b7), .val (.ref b12), .val (.int (Int32.ofNat fr)), .val (.int (5 : Int32)), .val (.int (Int32.ofNat last)), .unset, .unset] [(.ref b14), (.ref b14)])) _
    refine XS.iconst X17.here hx rfl (hb hby at_96) ?_
    show Steps p.tables e below (T17.setTop (mkF m 97 #[.val (.int p1), .val (.int p2), .val (.int p3), .val (.int p4), .val (.int p5), .val (.int p6), .val (.ref b7), .val (.ref b12), .val (.int (Int32.ofNat fr)), .val (.int (5 : Int32)), .val (.int (Int32.ofNat last)), .unset, .unset] [(.int (3 : Int32)), (.ref b14), (.ref b14)])) _
    refine X17.ldc2DoubleC hx hown (mvT hZ (hw _ (List.mem_of_getElem? (i := 22) rfl))) (g := (mkF m 97 #[.val (.int p1), .val (.int p2), .val (.int p3), .val (.int p4), .val (.int p5), .val (.int p6), .val (.ref b7), .val (.ref b12), .val (.int (Int32.ofNat fr)), .val (.int (5 : Int32)), .val (.int (Int32.ofNat last)), .unset, .unset] [(.int (3 : Int32)), (.ref b14), (.ref b14)])) rfl (hb hby at_97) _ ?_
    show Steps p.tables e below (T17.setTop (mkF m 100 #[.val (.int p1), .val (.int p2), .val (.int p3), .val (.int p4), .val (.int p5), .val (.int p6), .val (.ref b7), .val (.ref b12), .val (.int (Int32.ofNat fr)), .val (.int (5 : Int32)), .val (.int (Int32.ofNat last)), .unset, .unset] [(.double (4615063718147915776 : UInt64)), (.int (3 : Int32)), (.ref b14), (.ref b14)])) _
    refine st18 _ ?_
    show Steps p.tables e below (T18.setTop (mkF m 101 #[.val (.int p1), .val (.int p2), .val (.int p3), .val (.int p4), .val (.int p5), .val (.int p6), .val (.ref b7), .val (.ref b12), .val (.int (Int32.ofNat fr)), .val (.int (5 : Int32)), .val (.int (Int32.ofNat last)), .unset, .unset] [(.ref b14)])) _
    refine XS.astore X18.here hx rfl (hb hby at_101) rfl rfl (l' := #[.val (.int p1), .val (.int p2), .val (.int p3), .val (.int p4), .val (.int p5), .val (.int p6), .val (.ref b7), .val (.ref b12), .val (.int (Int32.ofNat fr)), .val (.int (5 : Int32)), .val (.int (Int32.ofNat last)), .val (.ref b14), .unset]) rfl ?_
    show Steps p.tables e below (T18.setTop (mkF m 103 #[.val (.int p1), .val (.int p2), .val (.int p3), .val (.int p4), .val (.int p5), .val (.int p6), .val (.ref b7), .val (.ref b12), .val (.int (Int32.ofNat fr)), .val (.int (5 : Int32)), .val (.int (Int32.ofNat last)), .val (.ref b14), .unset] [])) _
    refine XS.aload X18.here hx rfl (hb hby at_103) rfl rfl ?_
    show Steps p.tables e below (T18.setTop (mkF m 105 #[.val (.int p1), .val (.int p2), .val (.int p3), .val (.int p4), .val (.int p5), .val (.int p6), .val (.ref b7), .val (.ref b12), .val (.int (Int32.ofNat fr)), .val (.int (5 : Int32)), .val (.int (Int32.ofNat last)), .val (.ref b14), .unset] [(.ref b12)])) _
    refine XS.iloadN X18.here hx rfl (hb hby at_105) rfl ?_
    show Steps p.tables e below (T18.setTop (mkF m 106 #[.val (.int p1), .val (.int p2), .val (.int p3), .val (.int p4), .val (.int p5), .val (.int p6), .val (.ref b7), .val (.ref b12), .val (.int (Int32.ofNat fr)), .val (.int (5 : Int32)), .val (.int (Int32.ofNat last)), .val (.ref b14), .unset] [(.int p1), (.ref b12)])) _
    refine XS.i2dS X18.here hx rfl (hb hby at_106) rfl (i2d_w p1) ?_
    show Steps p.tables e below (T18.setTop (mkF m 107 #[.val (.int p1), .val (.int p2), .val (.int p3), .val (.int p4), .val (.int p5), .val (.int p6), .val (.ref b7), .val (.ref b12), .val (.int (Int32.ofNat fr)), .val (.int (5 : Int32)), .val (.int (Int32.ofNat last)), .val (.ref b14), .unset] [(.double (FP.l2d p1.toInt64)), (.ref b12)])) _
    refine XS.iload X18.here hx rfl (hb hby at_107) rfl ?_
    show Steps p.tables e below (T18.setTop (mkF m 109 #[.val (.int p1), .val (.int p2), .val (.int p3), .val (.int p4), .val (.int p5), .val (.int p6), .val (.ref b7), .val (.ref b12), .val (.int (Int32.ofNat fr)), .val (.int (5 : Int32)), .val (.int (Int32.ofNat last)), .val (.ref b14), .unset] [(.int (Int32.ofNat fr)), (.double (FP.l2d p1.toInt64)), (.ref b12)])) _
    refine XS.iload X18.here hx rfl (hb hby at_109) rfl ?_
    show Steps p.tables e below (T18.setTop (mkF m 111 #[.val (.int p1), .val (.int p2), .val (.int p3), .val (.int p4), .val (.int p5), .val (.int p6), .val (.ref b7), .val (.ref b12), .val (.int (Int32.ofNat fr)), .val (.int (5 : Int32)), .val (.int (Int32.ofNat last)), .val (.ref b14), .unset] [(.int (5 : Int32)), (.int (Int32.ofNat fr)), (.double (FP.l2d p1.toInt64)), (.ref b12)])) _
    refine XS.iload X18.here hx rfl (hb hby at_111) rfl ?_
    show Steps p.tables e below (T18.setTop (mkF m 113 #[.val (.int p1), .val (.int p2), .val (.int p3), .val (.int p4), .val (.int p5), .val (.int p6), .val (.ref b7), .val (.ref b12), .val (.int (Int32.ofNat fr)), .val (.int (5 : Int32)), .val (.int (Int32.ofNat last)), .val (.ref b14), .unset] [(.int (Int32.ofNat last)), (.int (5 : Int32)), (.int (Int32.ofNat fr)), (.double (FP.l2d p1.toInt64)), (.ref b12)])) _
    refine XS.aload X18.here hx rfl (hb hby at_113) rfl rfl ?_
    show Steps p.tables e below (T18.setTop (mkF m 115 #[.val (.int p1), .val (.int p2), .val (.int p3), .val (.int p4), .val (.int p5), .val (.int p6), .val (.ref b7), .val (.ref b12), .val (.int (Int32.ofNat fr)), .val (.int (5 : Int32)), .val (.int (Int32.ofNat last)), .val (.ref b14), .unset] [(.ref b14), (.int (Int32.ofNat last)), (.int (5 : Int32)), (.int (Int32.ofNat fr)), (.double (FP.l2d p1.toInt64)), (.ref b12)])) _
    refine st19.trans ?_
    show Steps p.tables e below (T19.setTop (mkF m 118 #[.val (.int p1), .val (.int p2), .val (.int p3), .val (.int p4), .val (.int p5), .val (.int p6), .val (.ref b7), .val (.ref b12), .val (.int (Int32.ofNat fr)), .val (.int (5 : Int32)), .val (.int (Int32.ofNat last)), .val (.ref b14), .unset] [])) _
    refine XS.iconst X19.here hx rfl (hb hby at_118) ?_
    show Steps p.tables e below (T19.setTop (mkF m 119 #[.val (.int p1), .val (.int p2), .val (.int p3), .val (.int p4), .val (.int p5), .val (.int p6), .val (.ref b7), .val (.ref b12), .val (.int (Int32.ofNat fr)), .val (.int (5 : Int32)), .val (.int (Int32.ofNat last)), .val (.ref b14), .unset] [(.int (5 : Int32))])) _
    refine st20 _ ?_
    show Steps p.tables e below (T20.setTop (mkF m 121 #[.val (.int p1), .val (.int p2), .val (.int p3), .val (.int p4), .val (.int p5), .val (.int p6), .val (.ref b7), .val (.ref b12), .val (.int (Int32.ofNat fr)), .val (.int (5 : Int32)), .val (.int (Int32.ofNat last)), .val (.ref b14), .unset] [(.ref b20)])) _
    refine XS.dup X20.here hx rfl (hb hby at_121) rfl rfl ?_
    show Steps p.tables e below (T20.setTop (mkF m 122 #[.val (.int p1), .val (.int p2), .val (.int p3), .val (.int p4), .val (.int p5), .val (.int p6), .val (.ref b7), .val (.ref b12), .val (.int (Int32.ofNat fr)), .val (.int (5 : Int32)), .val (.int (Int32.ofNat last)), .val (.ref b14), .unset] [(.ref b20), (.ref b20)])) _
    refine XS.iconst X20.here hx rfl (hb hby at_122) ?_
    show Steps p.tables e below (T20.setTop (mkF m 123 #[.val (.int p1), .val (.int p2), .val (.int p3), .val (.int p4), .val (.int p5), .val (.int p6), .val (.ref b7), .val (.ref b12), .val (.int (Int32.ofNat fr)), .val (.int (5 : Int32)), .val (.int (Int32.ofNat last)), .val (.ref b14), .unset] [(.int (0 : Int32)), (.ref b20), (.ref b20)])) _
    refine XS.lconst X20.here hx rfl (hb hby at_123) ?_
    show Steps p.tables e below (T20.setTop (mkF m 124 #[.val (.int p1), .val (.int p2), .val (.int p3), .val (.int p4), .val (.int p5), .val (.int p6), .val (.ref b7), .val (.ref b12), .val (.int (Int32.ofNat fr)), .val (.int (5 : Int32)), .val (.int (Int32.ofNat last)), .val (.ref b14), .unset] [(.long (0 : Int64)), (.int (0 : Int32)), (.ref b20), (.ref b20)])) _
    refine st21 _ ?_
    show Steps p.tables e below (T21.setTop (mkF m 125 #[.val (.int p1), .val (.int p2), .val (.int p3), .val (.int p4), .val (.int p5), .val (.int p6), .val (.ref b7), .val (.ref b12), .val (.int (Int32.ofNat fr)), .val (.int (5 : Int32)), .val (.int (Int32.ofNat last)), .val (.ref b14), .unset] [(.ref b20)])) _
    refine XS.dup X21.here hx rfl (hb hby at_125) rfl rfl ?_
    show Steps p.tables e below (T21.setTop (mkF m 126 #[.val (.int p1), .val (.int p2), .val (.int p3), .val (.int p4), .val (.int p5), .val (.int p6), .val (.ref b7), .val (.ref b12), .val (.int (Int32.ofNat fr)), .val (.int (5 : Int32)), .val (.int (Int32.ofNat last)), .val (.ref b14), .unset] [(.ref b20), (.ref b20)])) _
    refine XS.iconst X21.here hx rfl (hb hby at_126) ?_
    show Steps p.tables e below (T21.setTop (mkF m 127 #[.val (.int p1), .val (.int p2), .val (.int p3), .val (.int p4), .val (.int p5), .val (.int p6), .val (.ref b7), .val (.ref b12), .val (.int (Int32.ofNat fr)), .val (.int (5 : Int32)), .val (.int (Int32.ofNat last)), .val (.ref b14), .unset] [(.int (1 : Int32)), (.ref b20), (.ref b20)])) _
    refine XS.iloadN X21.here hx rfl (hb hby at_127) rfl ?_
    show Steps p.tables e below (T21.setTop (mkF m 128 #[.val (.int p1), .val (.int p2), .val (.int p3), .val (.int p4), .val (.int p5), .val (.int p6), .val (.ref b7), .val (.ref b12), .val (.int (Int32.ofNat fr)), .val (.int (5 : Int32)), .val (.int (Int32.ofNat last)), .val (.ref b14), .unset] [(.int p3), (.int (1 : Int32)), (.ref b20), (.ref b20)])) _
    refine XS.i2l X21.here hx rfl (hb hby at_128) rfl ?_
    show Steps p.tables e below (T21.setTop (mkF m 129 #[.val (.int p1), .val (.int p2), .val (.int p3), .val (.int p4), .val (.int p5), .val (.int p6), .val (.ref b7), .val (.ref b12), .val (.int (Int32.ofNat fr)), .val (.int (5 : Int32)), .val (.int (Int32.ofNat last)), .val (.ref b14), .unset] [(.long (p3.toInt64)), (.int (1 : Int32)), (.ref b20), (.ref b20)])) _
    refine st22 _ ?_
    show Steps p.tables e below (T22.setTop (mkF m 130 #[.val (.int p1), .val (.int p2), .val (.int p3), .val (.int p4), .val (.int p5), .val (.int p6), .val (.ref b7), .val (.ref b12), .val (.int (Int32.ofNat fr)), .val (.int (5 : Int32)), .val (.int (Int32.ofNat last)), .val (.ref b14), .unset] [(.ref b20)])) _
    refine XS.dup X22.here hx rfl (hb hby at_130) rfl rfl ?_
    show Steps p.tables e below (T22.setTop (mkF m 131 #[.val (.int p1), .val (.int p2), .val (.int p3), .val (.int p4), .val (.int p5), .val (.int p6), .val (.ref b7), .val (.ref b12), .val (.int (Int32.ofNat fr)), .val (.int (5 : Int32)), .val (.int (Int32.ofNat last)), .val (.ref b14), .unset] [(.ref b20), (.ref b20)])) _
    refine XS.iconst X22.here hx rfl (hb hby at_131) ?_
    show Steps p.tables e below (T22.setTop (mkF m 132 #[.val (.int p1), .val (.int p2), .val (.int p3), .val (.int p4), .val (.int p5), .val (.int p6), .val (.ref b7), .val (.ref b12), .val (.int (Int32.ofNat fr)), .val (.int (5 : Int32)), .val (.int (Int32.ofNat last)), .val (.ref b14), .unset] [(.int (2 : Int32)), (.ref b20), (.ref b20)])) _
    refine XS.iloadN X22.here hx rfl (hb hby at_132) rfl ?_
    show Steps p.tables e below (T22.setTop (mkF m 133 #[.val (.int p1), .val (.int p2), .val (.int p3), .val (.int p4), .val (.int p5), .val (.int p6), .val (.ref b7), .val (.ref b12), .val (.int (Int32.ofNat fr)), .val (.int (5 : Int32)), .val (.int (Int32.ofNat last)), .val (.ref b14), .unset] [(.int p3), (.int (2 : Int32)), (.ref b20), (.ref b20)])) _
    refine XS.i2l X22.here hx rfl (hb hby at_133) rfl ?_
    show Steps p.tables e below (T22.setTop (mkF m 134 #[.val (.int p1), .val (.int p2), .val (.int p3), .val (.int p4), .val (.int p5), .val (.int p6), .val (.ref b7), .val (.ref b12), .val (.int (Int32.ofNat fr)), .val (.int (5 : Int32)), .val (.int (Int32.ofNat last)), .val (.ref b14), .unset] [(.long (p3.toInt64)), (.int (2 : Int32)), (.ref b20), (.ref b20)])) _
    refine XS.iloadN X22.here hx rfl (hb hby at_134) rfl ?_
    show Steps p.tables e below (T22.setTop (mkF m 135 #[.val (.int p1), .val (.int p2), .val (.int p3), .val (.int p4), .val (.int p5), .val (.int p6), .val (.ref b7), .val (.ref b12), .val (.int (Int32.ofNat fr)), .val (.int (5 : Int32)), .val (.int (Int32.ofNat last)), .val (.ref b14), .unset] [(.int p4), (.long (p3.toInt64)), (.int (2 : Int32)), (.ref b20), (.ref b20)])) _
    refine XS.i2l X22.here hx rfl (hb hby at_135) rfl ?_
    show Steps p.tables e below (T22.setTop (mkF m 136 #[.val (.int p1), .val (.int p2), .val (.int p3), .val (.int p4), .val (.int p5), .val (.int p6), .val (.ref b7), .val (.ref b12), .val (.int (Int32.ofNat fr)), .val (.int (5 : Int32)), .val (.int (Int32.ofNat last)), .val (.ref b14), .unset] [(.long (p4.toInt64)), (.long (p3.toInt64)), (.int (2 : Int32)), (.ref b20), (.ref b20)])) _
    refine XS.ladd X22.here hx rfl (hb hby at_136) rfl ?_
    show Steps p.tables e below (T22.setTop (mkF m 137 #[.val (.int p1), .val (.int p2), .val (.int p3), .val (.int p4), .val (.int p5), .val (.int p6), .val (.ref b7), .val (.ref b12), .val (.int (Int32.ofNat fr)), .val (.int (5 : Int32)), .val (.int (Int32.ofNat last)), .val (.ref b14), .unset] [(.long ((p3.toInt64) + (p4.toInt64))), (.int (2 : Int32)), (.ref b20), (.ref b20)])) _
    refine st23 _ ?_
    show Steps p.tables e below (T23.setTop (mkF m 138 #[.val (.int p1), .val (.int p2), .val (.int p3), .val (.int p4), .val (.int p5), .val (.int p6), .val (.ref b7), .val (.ref b12), .val (.int (Int32.ofNat fr)), .val (.int (5 : Int32)), .val (.int (Int32.ofNat last)), .val (.ref b14), .unset] [(.ref b20)])) _
    refine XS.dup X23.here hx rfl (hb hby at_138) rfl rfl ?_
    show Steps p.tables e below (T23.setTop (mkF m 139 #[.val (.int p1), .val (.int p2), .val (.int p3), .val (.int p4), .val (.int p5), .val (.int p6), .val (.ref b7), .val (.ref b12), .val (.int (Int32.ofNat fr)), .val (.int (5 : Int32)), .val (.int (Int32.ofNat last)), .val (.ref b14), .unset] [(.ref b20), (.ref b20)])) _
    refine XS.iconst X23.here hx rfl (hb hby at_139) ?_
    show Steps p.tables e below (T23.setTop (mkF m 140 #[.val (.int p1), .val (.int p2), .val (.int p3), .val (.int p4), .val (.int p5), .val (.int p6), .val (.ref b7), .val (.ref b12), .val (.int (Int32.ofNat fr)), .val (.int (5 : Int32)), .val (.int (Int32.ofNat last)), .val (.ref b14), .unset] [(.int (3 : Int32)), (.ref b20), (.ref b20)])) _
    refine XS.iloadN X23.here hx rfl (hb hby at_140) rfl ?_
    show Steps p.tables e below (T23.setTop (mkF m 141 #[.val (.int p1), .val (.int p2), .val (.int p3), .val (.int p4), .val (.int p5), .val (.int p6), .val (.ref b7), .val (.ref b12), .val (.int (Int32.ofNat fr)), .val (.int (5 : Int32)), .val (.int (Int32.ofNat last)), .val (.ref b14), .unset] [(.int p3), (.int (3 : Int32)), (.ref b20), (.ref b20)])) _
    refine XS.i2l X23.here hx rfl (hb hby at_141) rfl ?_
    show Steps p.tables e below (T23.setTop (mkF m 142 #[.val (.int p1), .val (.int p2), .val (.int p3), .val (.int p4), .val (.int p5), .val (.int p6), .val (.ref b7), .val (.ref b12), .val (.int (Int32.ofNat fr)), .val (.int (5 : Int32)), .val (.int (Int32.ofNat last)), .val (.ref b14), .unset] [(.long (p3.toInt64)), (.int (3 : Int32)), (.ref b20), (.ref b20)])) _
    refine XS.iloadN X23.here hx rfl (hb hby at_142) rfl ?_
    show Steps p.tables e below (T23.setTop (mkF m 143 #[.val (.int p1), .val (.int p2), .val (.int p3), .val (.int p4), .val (.int p5), .val (.int p6), .val (.ref b7), .val (.ref b12), .val (.int (Int32.ofNat fr)), .val (.int (5 : Int32)), .val (.int (Int32.ofNat last)), .val (.ref b14), .unset] [(.int p4), (.long (p3.toInt64)), (.int (3 : Int32)), (.ref b20), (.ref b20)])) _
    refine XS.i2l X23.here hx rfl (hb hby at_143) rfl ?_
    show Steps p.tables e below (T23.setTop (mkF m 144 #[.val (.int p1), .val (.int p2), .val (.int p3), .val (.int p4), .val (.int p5), .val (.int p6), .val (.ref b7), .val (.ref b12), .val (.int (Int32.ofNat fr)), .val (.int (5 : Int32)), .val (.int (Int32.ofNat last)), .val (.ref b14), .unset] [(.long (p4.toInt64)), (.long (p3.toInt64)), (.int (3 : Int32)), (.ref b20), (.ref b20)])) _
    refine XS.ladd X23.here hx rfl (hb hby at_144) rfl ?_
    show Steps p.tables e below (T23.setTop (mkF m 145 #[.val (.int p1), .val (.int p2), .val (.int p3), .val (.int p4), .val (.int p5), .val (.int p6), .val (.ref b7), .val (.ref b12), .val (.int (Int32.ofNat fr)), .val (.int (5 : Int32)), .val (.int (Int32.ofNat last)), .val (.ref b14), .unset] [(.long ((p3.toInt64) + (p4.toInt64))), (.int (3 : Int32)), (.ref b20), (.ref b20)])) _
    refine XS.iload X23.here hx rfl (hb hby at_145) rfl ?_
    show Steps p.tables e below (T23.setTop (mkF m 147 #[.val (.int p1), .val (.int p2), .val (.int p3), .val (.int p4), .val (.int p5), .val (.int p6), .val (.ref b7), .val (.ref b12), .val (.int (Int32.ofNat fr)), .val (.int (5 : Int32)), .val (.int (Int32.ofNat last)), .val (.ref b14), .unset] [(.int p5), (.long ((p3.toInt64) + (p4.toInt64))), (.int (3 : Int32)), (.ref b20), (.ref b20)])) _
    refine XS.i2l X23.here hx rfl (hb hby at_147) rfl ?_
    show Steps p.tables e below (T23.setTop (mkF m 148 #[.val (.int p1), .val (.int p2), .val (.int p3), .val (.int p4), .val (.int p5), .val (.int p6), .val (.ref b7), .val (.ref b12), .val (.int (Int32.ofNat fr)), .val (.int (5 : Int32)), .val (.int (Int32.ofNat last)), .val (.ref b14), .unset] [(.long (p5.toInt64)), (.long ((p3.toInt64) + (p4.toInt64))), (.int (3 : Int32)), (.ref b20), (.ref b20)])) _
    refine XS.ladd X23.here hx rfl (hb hby at_148) rfl ?_
    show Steps p.tables e below (T23.setTop (mkF m 149 #[.val (.int p1), .val (.int p2), .val (.int p3), .val (.int p4), .val (.int p5), .val (.int p6), .val (.ref b7), .val (.ref b12), .val (.int (Int32.ofNat fr)), .val (.int (5 : Int32)), .val (.int (Int32.ofNat last)), .val (.ref b14), .unset] [(.long (((p3.toInt64) + (p4.toInt64)) + (p5.toInt64))), (.int (3 : Int32)), (.ref b20), (.ref b20)])) _
    refine st24 _ ?_
    show Steps p.tables e below (T24.setTop (mkF m 150 #[.val (.int p1), .val (.int p2), .val (.int p3), .val (.int p4), .val (.int p5), .val (.int p6), .val (.ref b7), .val (.ref b12), .val (.int (Int32.ofNat fr)), .val (.int (5 : Int32)), .val (.int (Int32.ofNat last)), .val (.ref b14), .unset] [(.ref b20)])) _
    refine XS.dup X24.here hx rfl (hb hby at_150) rfl rfl ?_
    show Steps p.tables e below (T24.setTop (mkF m 151 #[.val (.int p1), .val (.int p2), .val (.int p3), .val (.int p4), .val (.int p5), .val (.int p6), .val (.ref b7), .val (.ref b12), .val (.int (Int32.ofNat fr)), .val (.int (5 : Int32)), .val (.int (Int32.ofNat last)), .val (.ref b14), .unset] [(.ref b20), (.ref b20)])) _
    refine XS.iconst X24.here hx rfl (hb hby at_151) ?_
    show Steps p.tables e below (T24.setTop (mkF m 152 #[.val (.int p1), .val (.int p2), .val (.int p3), .val (.int p4), .val (.int p5), .val (.int p6), .val (.ref b7), .val (.ref b12), .val (.int (Int32.ofNat fr)), .val (.int (5 : Int32)), .val (.int (Int32.ofNat last)), .val (.ref b14), .unset] [(.int (4 : Int32)), (.ref b20), (.ref b20)])) _
    refine XS.iloadN X24.here hx rfl (hb hby at_152) rfl ?_
    show Steps p.tables e below (T24.setTop (mkF m 153 #[.val (.int p1), .val (.int p2), .val (.int p3), .val (.int p4), .val (.int p5), .val (.int p6), .val (.ref b7), .val (.ref b12), .val (.int (Int32.ofNat fr)), .val (.int (5 : Int32)), .val (.int (Int32.ofNat last)), .val (.ref b14), .unset] [(.int p3), (.int (4 : Int32)), (.ref b20), (.ref b20)])) _
    refine XS.i2l X24.here hx rfl (hb hby at_153) rfl ?_
    show Steps p.tables e below (T24.setTop (mkF m 154 #[.val (.int p1), .val (.int p2), .val (.int p3), .val (.int p4), .val (.int p5), .val (.int p6), .val (.ref b7), .val (.ref b12), .val (.int (Int32.ofNat fr)), .val (.int (5 : Int32)), .val (.int (Int32.ofNat last)), .val (.ref b14), .unset] [(.long (p3.toInt64)), (.int (4 : Int32)), (.ref b20), (.ref b20)])) _
    refine XS.iloadN X24.here hx rfl (hb hby at_154) rfl ?_
    show Steps p.tables e below (T24.setTop (mkF m 155 #[.val (.int p1), .val (.int p2), .val (.int p3), .val (.int p4), .val (.int p5), .val (.int p6), .val (.ref b7), .val (.ref b12), .val (.int (Int32.ofNat fr)), .val (.int (5 : Int32)), .val (.int (Int32.ofNat last)), .val (.ref b14), .unset] [(.int p4), (.long (p3.toInt64)), (.int (4 : Int32)), (.ref b20), (.ref b20)])) _
    refine XS.i2l X24.here hx rfl (hb hby at_155) rfl ?_
    show Steps p.tables e below (T24.setTop (mkF m 156 #[.val (.int p1), .val (.int p2), .val (.int p3), .val (.int p4), .val (.int p5), .val (.int p6), .val (.ref b7), .val (.ref b12), .val (.int (Int32.ofNat fr)), .val (.int (5 : Int32)), .val (.int (Int32.ofNat last)), .val (.ref b14), .unset] [(.long (p4.toInt64)), (.long (p3.toInt64)), (.int (4 : Int32)), (.ref b20), (.ref b20)])) _
    refine XS.ladd X24.here hx rfl (hb hby at_156) rfl ?_
    show Steps p.tables e below (T24.setTop (mkF m 157 #[.val (.int p1), .val (.int p2), .val (.int p3), .val (.int p4), .val (.int p5), .val (.int p6), .val (.ref b7), .val (.ref b12), .val (.int (Int32.ofNat fr)), .val (.int (5 : Int32)), .val (.int (Int32.ofNat last)), .val (.ref b14), .unset] [(.long ((p3.toInt64) + (p4.toInt64))), (.int (4 : Int32)), (.ref b20), (.ref b20)])) _
    refine XS.iload X24.here hx rfl (hb hby at_157) rfl ?_
    show Steps p.tables e below (T24.setTop (mkF m 159 #[.val (.int p1), .val (.int p2), .val (.int p3), .val (.int p4), .val (.int p5), .val (.int p6), .val (.ref b7), .val (.ref b12), .val (.int (Int32.ofNat fr)), .val (.int (5 : Int32)), .val (.int (Int32.ofNat last)), .val (.ref b14), .unset] [(.int p5), (.long ((p3.toInt64) + (p4.toInt64))), (.int (4 : Int32)), (.ref b20), (.ref b20)])) _
    refine XS.i2l X24.here hx rfl (hb hby at_159) rfl ?_
    show Steps p.tables e below (T24.setTop (mkF m 160 #[.val (.int p1), .val (.int p2), .val (.int p3), .val (.int p4), .val (.int p5), .val (.int p6), .val (.ref b7), .val (.ref b12), .val (.int (Int32.ofNat fr)), .val (.int (5 : Int32)), .val (.int (Int32.ofNat last)), .val (.ref b14), .unset] [(.long (p5.toInt64)), (.long ((p3.toInt64) + (p4.toInt64))), (.int (4 : Int32)), (.ref b20), (.ref b20)])) _
    refine XS.ladd X24.here hx rfl (hb hby at_160) rfl ?_
    show Steps p.tables e below (T24.setTop (mkF m 161 #[.val (.int p1), .val (.int p2), .val (.int p3), .val (.int p4), .val (.int p5), .val (.int p6), .val (.ref b7), .val (.ref b12), .val (.int (Int32.ofNat fr)), .val (.int (5 : Int32)), .val (.int (Int32.ofNat last)), .val (.ref b14), .unset] [(.long (((p3.toInt64) + (p4.toInt64)) + (p5.toInt64))), (.int (4 : Int32)), (.ref b20), (.ref b20)])) _
    refine XS.iload X24.here hx rfl (hb hby at_161) rfl ?_
    show Steps p.tables e below (T24.setTop (mkF m 163 #[.val (.int p1), .val (.int p2), .val (.int p3), .val (.int p4), .val (.int p5), .val (.int p6), .val (.ref b7), .val (.ref b12), .val (.int (Int32.ofNat fr)), .val (.int (5 : Int32)), .val (.int (Int32.ofNat last)), .val (.ref b14), .unset] [(.int p6), (.long (((p3.toInt64) + (p4.toInt64)) + (p5.toInt64))), (.int (4 : Int32)), (.ref b20), (.ref b20)])) _
    refine XS.i2l X24.here hx rfl (hb hby at_163) rfl ?_
    show Steps p.tables e below (T24.setTop (mkF m 164 #[.val (.int p1), .val (.int p2), .val (.int p3), .val (.int p4), .val (.int p5), .val (.int p6), .val (.ref b7), .val (.ref b12), .val (.int (Int32.ofNat fr)), .val (.int (5 : Int32)), .val (.int (Int32.ofNat last)), .val (.ref b14), .unset] [(.long (p6.toInt64)), (.long (((p3.toInt64) + (p4.toInt64)) + (p5.toInt64))), (.int (4 : Int32)), (.ref b20), (.ref b20)])) _
    refine XS.ladd X24.here hx rfl (hb hby at_164) rfl ?_
    show Steps p.tables e below (T24.setTop (mkF m 165 #[.val (.int p1), .val (.int p2), .val (.int p3), .val (.int p4), .val (.int p5), .val (.int p6), .val (.ref b7), .val (.ref b12), .val (.int (Int32.ofNat fr)), .val (.int (5 : Int32)), .val (.int (Int32.ofNat last)), .val (.ref b14), .unset] [(.long ((((p3.toInt64) + (p4.toInt64)) + (p5.toInt64)) + (p6.toInt64))), (.int (4 : Int32)), (.ref b20), (.ref b20)])) _
    refine st25 _ ?_
    show Steps p.tables e below (T25.setTop (mkF m 166 #[.val (.int p1), .val (.int p2), .val (.int p3), .val (.int p4), .val (.int p5), .val (.int p6), .val (.ref b7), .val (.ref b12), .val (.int (Int32.ofNat fr)), .val (.int (5 : Int32)), .val (.int (Int32.ofNat last)), .val (.ref b14), .unset] [(.ref b20)])) _
    refine XS.astore X25.here hx rfl (hb hby at_166) rfl rfl (l' := #[.val (.int p1), .val (.int p2), .val (.int p3), .val (.int p4), .val (.int p5), .val (.int p6), .val (.ref b7), .val (.ref b12), .val (.int (Int32.ofNat fr)), .val (.int (5 : Int32)), .val (.int (Int32.ofNat last)), .val (.ref b14), .val (.ref b20)]) rfl ?_
    show Steps p.tables e below (T25.setTop (mkF m 168 #[.val (.int p1), .val (.int p2), .val (.int p3), .val (.int p4), .val (.int p5), .val (.int p6), .val (.ref b7), .val (.ref b12), .val (.int (Int32.ofNat fr)), .val (.int (5 : Int32)), .val (.int (Int32.ofNat last)), .val (.ref b14), .val (.ref b20)] [])) _
    refine XS.aload X25.here hx rfl (hb hby at_168) rfl rfl ?_
    show Steps p.tables e below (T25.setTop (mkF m 170 #[.val (.int p1), .val (.int p2), .val (.int p3), .val (.int p4), .val (.int p5), .val (.int p6), .val (.ref b7), .val (.ref b12), .val (.int (Int32.ofNat fr)), .val (.int (5 : Int32)), .val (.int (Int32.ofNat last)), .val (.ref b14), .val (.ref b20)] [(.ref b14)])) _
    refine XS.iconst X25.here hx rfl (hb hby at_170) ?_
    show Steps p.tables e below (T25.setTop (mkF m 171 #[.val (.int p1), .val (.int p2), .val (.int p3), .val (.int p4), .val (.int p5), .val (.int p6), .val (.ref b7), .val (.ref b12), .val (.int (Int32.ofNat fr)), .val (.int (5 : Int32)), .val (.int (Int32.ofNat last)), .val (.ref b14), .val (.ref b20)] [(.int (1 : Int32)), (.ref b14)])) _
    refine XS.iloadN X25.here hx rfl (hb hby at_171) rfl ?_
    show Steps p.tables e below (T25.setTop (mkF m 172 #[.val (.int p1), .val (.int p2), .val (.int p3), .val (.int p4), .val (.int p5), .val (.int p6), .val (.ref b7), .val (.ref b12), .val (.int (Int32.ofNat fr)), .val (.int (5 : Int32)), .val (.int (Int32.ofNat last)), .val (.ref b14), .val (.ref b20)] [(.int p1), (.int (1 : Int32)), (.ref b14)])) _
    refine XS.iload X25.here hx rfl (hb hby at_172) rfl ?_
    show Steps p.tables e below (T25.setTop (mkF m 174 #[.val (.int p1), .val (.int p2), .val (.int p3), .val (.int p4), .val (.int p5), .val (.int p6), .val (.ref b7), .val (.ref b12), .val (.int (Int32.ofNat fr)), .val (.int (5 : Int32)), .val (.int (Int32.ofNat last)), .val (.ref b14), .val (.ref b20)] [(.int (Int32.ofNat fr)), (.int p1), (.int (1 : Int32)), (.ref b14)])) _
    refine XS.iload X25.here hx rfl (hb hby at_174) rfl ?_
    show Steps p.tables e below (T25.setTop (mkF m 176 #[.val (.int p1), .val (.int p2), .val (.int p3), .val (.int p4), .val (.int p5), .val (.int p6), .val (.ref b7), .val (.ref b12), .val (.int (Int32.ofNat fr)), .val (.int (5 : Int32)), .val (.int (Int32.ofNat last)), .val (.ref b14), .val (.ref b20)] [(.int (5 : Int32)), (.int (Int32.ofNat fr)), (.int p1), (.int (1 : Int32)), (.ref b14)])) _
    refine XS.iload X25.here hx rfl (hb hby at_176) rfl ?_
    show Steps p.tables e below (T25.setTop (mkF m 178 #[.val (.int p1), .val (.int p2), .val (.int p3), .val (.int p4), .val (.int p5), .val (.int p6), .val (.ref b7), .val (.ref b12), .val (.int (Int32.ofNat fr)), .val (.int (5 : Int32)), .val (.int (Int32.ofNat last)), .val (.ref b14), .val (.ref b20)] [(.int (Int32.ofNat last)), (.int (5 : Int32)), (.int (Int32.ofNat fr)), (.int p1), (.int (1 : Int32)), (.ref b14)])) _
    refine XS.aload X25.here hx rfl (hb hby at_178) rfl rfl ?_
    show Steps p.tables e below (T25.setTop (mkF m 180 #[.val (.int p1), .val (.int p2), .val (.int p3), .val (.int p4), .val (.int p5), .val (.int p6), .val (.ref b7), .val (.ref b12), .val (.int (Int32.ofNat fr)), .val (.int (5 : Int32)), .val (.int (Int32.ofNat last)), .val (.ref b14), .val (.ref b20)] [(.ref b20), (.int (Int32.ofNat last)), (.int (5 : Int32)), (.int (Int32.ofNat fr)), (.int p1), (.int (1 : Int32)), (.ref b14)])) _
    refine X25.ldc2DoubleC hx hown (mvT hZ (hw _ (List.mem_of_getElem? (i := 19) rfl))) (g := (mkF m 180 #[.val (.int p1), .val (.int p2), .val (.int p3), .val (.int p4), .val (.int p5), .val (.int p6), .val (.ref b7), .val (.ref b12), .val (.int (Int32.ofNat fr)), .val (.int (5 : Int32)), .val (.int (Int32.ofNat last)), .val (.ref b14), .val (.ref b20)] [(.ref b20), (.int (Int32.ofNat last)), (.int (5 : Int32)), (.int (Int32.ofNat fr)), (.int p1), (.int (1 : Int32)), (.ref b14)])) rfl (hb hby at_180) _ ?_
    show Steps p.tables e below (T25.setTop (mkF m 183 #[.val (.int p1), .val (.int p2), .val (.int p3), .val (.int p4), .val (.int p5), .val (.int p6), .val (.ref b7), .val (.ref b12), .val (.int (Int32.ofNat fr)), .val (.int (5 : Int32)), .val (.int (Int32.ofNat last)), .val (.ref b14), .val (.ref b20)] [(.double (4602678819172646912 : UInt64)), (.ref b20), (.int (Int32.ofNat last)), (.int (5 : Int32)), (.int (Int32.ofNat fr)), (.int p1), (.int (1 : Int32)), (.ref b14)])) _
    refine st26 _ ?_
    show Steps p.tables e below (T26.setTop (mkF m 186 #[.val (.int p1), .val (.int p2), .val (.int p3), .val (.int p4), .val (.int p5), .val (.int p6), .val (.ref b7), .val (.ref b12), .val (.int (Int32.ofNat fr)), .val (.int (5 : Int32)), .val (.int (Int32.ofNat last)), .val (.ref b14), .val (.ref b20)] [(.int (1 : Int32))])) _
    refine XS.ifNo X26.here hx rfl (hb hby at_186) rfl ((if0 _ _).trans (feq hq1).1) ?_
    show Steps p.tables e below (T26.setTop (mkF m 189 #[.val (.int p1), .val (.int p2), .val (.int p3), .val (.int p4), .val (.int p5), .val (.int p6), .val (.ref b7), .val (.ref b12), .val (.int (Int32.ofNat fr)), .val (.int (5 : Int32)), .val (.int (Int32.ofNat last)), .val (.ref b14), .val (.ref b20)] [])) _
    refine XS.aload X26.here hx rfl (hb hby at_189) rfl rfl ?_
    show Steps p.tables e below (T26.setTop (mkF m 191 #[.val (.int p1), .val (.int p2), .val (.int p3), .val (.int p4), .val (.int p5), .val (.int p6), .val (.ref b7), .val (.ref b12), .val (.int (Int32.ofNat fr)), .val (.int (5 : Int32)), .val (.int (Int32.ofNat last)), .val (.ref b14), .val (.ref b20)] [(.ref b14)])) _
    refine XS.iconst X26.here hx rfl (hb hby at_191) ?_
    show Steps p.tables e below (T26.setTop (mkF m 192 #[.val (.int p1), .val (.int p2), .val (.int p3), .val (.int p4), .val (.int p5), .val (.int p6), .val (.ref b7), .val (.ref b12), .val (.int (Int32.ofNat fr)), .val (.int (5 : Int32)), .val (.int (Int32.ofNat last)), .val (.ref b14), .val (.ref b20)] [(.int (2 : Int32)), (.ref b14)])) _
    refine XS.iloadN X26.here hx rfl (hb hby at_192) rfl ?_
    show Steps p.tables e below (T26.setTop (mkF m 193 #[.val (.int p1), .val (.int p2), .val (.int p3), .val (.int p4), .val (.int p5), .val (.int p6), .val (.ref b7), .val (.ref b12), .val (.int (Int32.ofNat fr)), .val (.int (5 : Int32)), .val (.int (Int32.ofNat last)), .val (.ref b14), .val (.ref b20)] [(.int p1), (.int (2 : Int32)), (.ref b14)])) _
    refine XS.iload X26.here hx rfl (hb hby at_193) rfl ?_
    show Steps p.tables e below (T26.setTop (mkF m 195 #[.val (.int p1), .val (.int p2), .val (.int p3), .val (.int p4), .val (.int p5), .val (.int p6), .val (.ref b7), .val (.ref b12), .val (.int (Int32.ofNat fr)), .val (.int (5 : Int32)), .val (.int (Int32.ofNat last)), .val (.ref b14), .val (.ref b20)] [(.int (Int32.ofNat fr)), (.int p1), (.int (2 : Int32)), (.ref b14)])) _
    refine XS.iload X26.here hx rfl (hb hby at_195) rfl ?_
    show Steps p.tables e below (T26.setTop (mkF m 197 #[.val (.int p1), .val (.int p2), .val (.int p3), .val (.int p4), .val (.int p5), .val (.int p6), .val (.ref b7), .val (.ref b12), .val (.int (Int32.ofNat fr)), .val (.int (5 : Int32)), .val (.int (Int32.ofNat last)), .val (.ref b14), .val (.ref b20)] [(.int (5 : Int32)), (.int (Int32.ofNat fr)), (.int p1), (.int (2 : Int32)), (.ref b14)])) _
    refine XS.iload X26.here hx rfl (hb hby at_197) rfl ?_
    show Steps p.tables e below (T26.setTop (mkF m 199 #[.val (.int p1), .val (.int p2), .val (.int p3), .val (.int p4), .val (.int p5), .val (.int p6), .val (.ref b7), .val (.ref b12), .val (.int (Int32.ofNat fr)), .val (.int (5 : Int32)), .val (.int (Int32.ofNat last)), .val (.ref b14), .val (.ref b20)] [(.int (Int32.ofNat last)), (.int (5 : Int32)), (.int (Int32.ofNat fr)), (.int p1), (.int (2 : Int32)), (.ref b14)])) _
    refine XS.aload X26.here hx rfl (hb hby at_199) rfl rfl ?_
    show Steps p.tables e below (T26.setTop (mkF m 201 #[.val (.int p1), .val (.int p2), .val (.int p3), .val (.int p4), .val (.int p5), .val (.int p6), .val (.ref b7), .val (.ref b12), .val (.int (Int32.ofNat fr)), .val (.int (5 : Int32)), .val (.int (Int32.ofNat last)), .val (.ref b14), .val (.ref b20)] [(.ref b20), (.int (Int32.ofNat last)), (.int (5 : Int32)), (.int (Int32.ofNat fr)), (.int p1), (.int (2 : Int32)), (.ref b14)])) _
    refine X26.ldc2DoubleC hx hown (mvT hZ (hw _ (List.mem_of_getElem? (i := 20) rfl))) (g := (mkF m 201 #[.val (.int p1), .val (.int p2), .val (.int p3), .val (.int p4), .val (.int p5), .val (.int p6), .val (.ref b7), .val (.ref b12), .val (.int (Int32.ofNat fr)), .val (.int (5 : Int32)), .val (.int (Int32.ofNat last)), .val (.ref b14), .val (.ref b20)] [(.ref b20), (.int (Int32.ofNat last)), (.int (5 : Int32)), (.int (Int32.ofNat fr)), (.int p1), (.int (2 : Int32)), (.ref b14)])) rfl (hb hby at_201) _ ?_
    show Steps p.tables e below (T26.setTop (mkF m 204 #[.val (.int p1), .val (.int p2), .val (.int p3), .val (.int p4), .val (.int p5), .val (.int p6), .val (.ref b7), .val (.ref b12), .val (.int (Int32.ofNat fr)), .val (.int (5 : Int32)), .val (.int (Int32.ofNat last)), .val (.ref b14), .val (.ref b20)] [(.double (4609434218613702656 : UInt64)), (.ref b20), (.int (Int32.ofNat last)), (.int (5 : Int32)), (.int (Int32.ofNat fr)), (.int p1), (.int (2 : Int32)), (.ref b14)])) _
    refine st27 _ ?_
    show Steps p.tables e below (T27.setTop (mkF m 207 #[.val (.int p1), .val (.int p2), .val (.int p3), .val (.int p4), .val (.int p5), .val (.int p6), .val (.ref b7), .val (.ref b12), .val (.int (Int32.ofNat fr)), .val (.int (5 : Int32)), .val (.int (Int32.ofNat last)), .val (.ref b14), .val (.ref b20)] [(.int (1 : Int32))])) _
    refine XS.ifNo X27.here hx rfl (hb hby at_207) rfl ((if0 _ _).trans (feq hq1).1) ?_
    show Steps p.tables e below (T27.setTop (mkF m 210 #[.val (.int p1), .val (.int p2), .val (.int p3), .val (.int p4), .val (.int p5), .val (.int p6), .val (.ref b7), .val (.ref b12), .val (.int (Int32.ofNat fr)), .val (.int (5 : Int32)), .val (.int (Int32.ofNat last)), .val (.ref b14), .val (.ref b20)] [])) _
    refine XS.aload X27.here hx rfl (hb hby at_210) rfl rfl ?_
    show Steps p.tables e below (T27.setTop (mkF m 212 #[.val (.int p1), .val (.int p2), .val (.int p3), .val (.int p4), .val (.int p5), .val (.int p6), .val (.ref b7), .val (.ref b12), .val (.int (Int32.ofNat fr)), .val (.int (5 : Int32)), .val (.int (Int32.ofNat last)), .val (.ref b14), .val (.ref b20)] [(.ref b14)])) _
    refine XS.iconst X27.here hx rfl (hb hby at_212) ?_
    show Steps p.tables e below (T27.setTop (mkF m 213 #[.val (.int p1), .val (.int p2), .val (.int p3), .val (.int p4), .val (.int p5), .val (.int p6), .val (.ref b7), .val (.ref b12), .val (.int (Int32.ofNat fr)), .val (.int (5 : Int32)), .val (.int (Int32.ofNat last)), .val (.ref b14), .val (.ref b20)] [(.int (3 : Int32)), (.ref b14)])) _
    refine XS.iloadN X27.here hx rfl (hb hby at_213) rfl ?_
    show Steps p.tables e below (T27.setTop (mkF m 214 #[.val (.int p1), .val (.int p2), .val (.int p3), .val (.int p4), .val (.int p5), .val (.int p6), .val (.ref b7), .val (.ref b12), .val (.int (Int32.ofNat fr)), .val (.int (5 : Int32)), .val (.int (Int32.ofNat last)), .val (.ref b14), .val (.ref b20)] [(.int p1), (.int (3 : Int32)), (.ref b14)])) _
    refine XS.iload X27.here hx rfl (hb hby at_214) rfl ?_
    show Steps p.tables e below (T27.setTop (mkF m 216 #[.val (.int p1), .val (.int p2), .val (.int p3), .val (.int p4), .val (.int p5), .val (.int p6), .val (.ref b7), .val (.ref b12), .val (.int (Int32.ofNat fr)), .val (.int (5 : Int32)), .val (.int (Int32.ofNat last)), .val (.ref b14), .val (.ref b20)] [(.int (Int32.ofNat fr)), (.int p1), (.int (3 : Int32)), (.ref b14)])) _
    refine XS.iload X27.here hx rfl (hb hby at_216) rfl ?_
    show Steps p.tables e below (T27.setTop (mkF m 218 #[.val (.int p1), .val (.int p2), .val (.int p3), .val (.int p4), .val (.int p5), .val (.int p6), .val (.ref b7), .val (.ref b12), .val (.int (Int32.ofNat fr)), .val (.int (5 : Int32)), .val (.int (Int32.ofNat last)), .val (.ref b14), .val (.ref b20)] [(.int (5 : Int32)), (.int (Int32.ofNat fr)), (.int p1), (.int (3 : Int32)), (.ref b14)])) _
    refine XS.iload X27.here hx rfl (hb hby at_218) rfl ?_
    show Steps p.tables e below (T27.setTop (mkF m 220 #[.val (.int p1), .val (.int p2), .val (.int p3), .val (.int p4), .val (.int p5), .val (.int p6), .val (.ref b7), .val (.ref b12), .val (.int (Int32.ofNat fr)), .val (.int (5 : Int32)), .val (.int (Int32.ofNat last)), .val (.ref b14), .val (.ref b20)] [(.int (Int32.ofNat last)), (.int (5 : Int32)), (.int (Int32.ofNat fr)), (.int p1), (.int (3 : Int32)), (.ref b14)])) _
    refine XS.aload X27.here hx rfl (hb hby at_220) rfl rfl ?_
    show Steps p.tables e below (T27.setTop (mkF m 222 #[.val (.int p1), .val (.int p2), .val (.int p3), .val (.int p4), .val (.int p5), .val (.int p6), .val (.ref b7), .val (.ref b12), .val (.int (Int32.ofNat fr)), .val (.int (5 : Int32)), .val (.int (Int32.ofNat last)), .val (.ref b14), .val (.ref b20)] [(.ref b20), (.int (Int32.ofNat last)), (.int (5 : Int32)), (.int (Int32.ofNat fr)), (.int p1), (.int (3 : Int32)), (.ref b14)])) _
    refine X27.ldc2DoubleC hx hown (mvT hZ (hw _ (List.mem_of_getElem? (i := 21) rfl))) (g := (mkF m 222 #[.val (.int p1), .val (.int p2), .val (.int p3), .val (.int p4), .val (.int p5), .val (.int p6), .val (.ref b7), .val (.ref b12), .val (.int (Int32.ofNat fr)), .val (.int (5 : Int32)), .val (.int (Int32.ofNat last)), .val (.ref b14), .val (.ref b20)] [(.ref b20), (.int (Int32.ofNat last)), (.int (5 : Int32)), (.int (Int32.ofNat fr)), (.int p1), (.int (3 : Int32)), (.ref b14)])) rfl (hb hby at_222) _ ?_
    show Steps p.tables e below (T27.setTop (mkF m 225 #[.val (.int p1), .val (.int p2), .val (.int p3), .val (.int p4), .val (.int p5), .val (.int p6), .val (.ref b7), .val (.ref b12), .val (.int (Int32.ofNat fr)), .val (.int (5 : Int32)), .val (.int (Int32.ofNat last)), .val (.ref b14), .val (.ref b20)] [(.double (4612811918334230528 : UInt64)), (.ref b20), (.int (Int32.ofNat last)), (.int (5 : Int32)), (.int (Int32.ofNat fr)), (.int p1), (.int (3 : Int32)), (.ref b14)])) _
    refine st28 _ ?_
    show Steps p.tables e below (T28.setTop (mkF m 228 #[.val (.int p1), .val (.int p2), .val (.int p3), .val (.int p4), .val (.int p5), .val (.int p6), .val (.ref b7), .val (.ref b12), .val (.int (Int32.ofNat fr)), .val (.int (5 : Int32)), .val (.int (Int32.ofNat last)), .val (.ref b14), .val (.ref b20)] [(.int (1 : Int32))])) _
    refine XS.ifNo X28.here hx rfl (hb hby at_228) rfl ((if0 _ _).trans (feq hq1).1) ?_
    show Steps p.tables e below (T28.setTop (mkF m 231 #[.val (.int p1), .val (.int p2), .val (.int p3), .val (.int p4), .val (.int p5), .val (.int p6), .val (.ref b7), .val (.ref b12), .val (.int (Int32.ofNat fr)), .val (.int (5 : Int32)), .val (.int (Int32.ofNat last)), .val (.ref b14), .val (.ref b20)] [])) _
    refine XS.aload X28.here hx rfl (hb hby at_231) rfl rfl ?_
    show Steps p.tables e below (T28.setTop (mkF m 233 #[.val (.int p1), .val (.int p2), .val (.int p3), .val (.int p4), .val (.int p5), .val (.int p6), .val (.ref b7), .val (.ref b12), .val (.int (Int32.ofNat fr)), .val (.int (5 : Int32)), .val (.int (Int32.ofNat last)), .val (.ref b14), .val (.ref b20)] [(.ref b14)])) _
    refine XS.iconst X28.here hx rfl (hb hby at_233) ?_
    show Steps p.tables e below (T28.setTop (mkF m 234 #[.val (.int p1), .val (.int p2), .val (.int p3), .val (.int p4), .val (.int p5), .val (.int p6), .val (.ref b7), .val (.ref b12), .val (.int (Int32.ofNat fr)), .val (.int (5 : Int32)), .val (.int (Int32.ofNat last)), .val (.ref b14), .val (.ref b20)] [(.int (4 : Int32)), (.ref b14)])) _
    refine XS.iloadN X28.here hx rfl (hb hby at_234) rfl ?_
    show Steps p.tables e below (T28.setTop (mkF m 235 #[.val (.int p1), .val (.int p2), .val (.int p3), .val (.int p4), .val (.int p5), .val (.int p6), .val (.ref b7), .val (.ref b12), .val (.int (Int32.ofNat fr)), .val (.int (5 : Int32)), .val (.int (Int32.ofNat last)), .val (.ref b14), .val (.ref b20)] [(.int p1), (.int (4 : Int32)), (.ref b14)])) _
    refine XS.iload X28.here hx rfl (hb hby at_235) rfl ?_
    show Steps p.tables e below (T28.setTop (mkF m 237 #[.val (.int p1), .val (.int p2), .val (.int p3), .val (.int p4), .val (.int p5), .val (.int p6), .val (.ref b7), .val (.ref b12), .val (.int (Int32.ofNat fr)), .val (.int (5 : Int32)), .val (.int (Int32.ofNat last)), .val (.ref b14), .val (.ref b20)] [(.int (Int32.ofNat fr)), (.int p1), (.int (4 : Int32)), (.ref b14)])) _
    refine XS.iload X28.here hx rfl (hb hby at_237) rfl ?_
    show Steps p.tables e below (T28.setTop (mkF m 239 #[.val (.int p1), .val (.int p2), .val (.int p3), .val (.int p4), .val (.int p5), .val (.int p6), .val (.ref b7), .val (.ref b12), .val (.int (Int32.ofNat fr)), .val (.int (5 : Int32)), .val (.int (Int32.ofNat last)), .val (.ref b14), .val (.ref b20)] [(.int (5 : Int32)), (.int (Int32.ofNat fr)), (.int p1), (.int (4 : Int32)), (.ref b14)])) _
    refine XS.iload X28.here hx rfl (hb hby at_239) rfl ?_
    show Steps p.tables e below (T28.setTop (mkF m 241 #[.val (.int p1), .val (.int p2), .val (.int p3), .val (.int p4), .val (.int p5), .val (.int p6), .val (.ref b7), .val (.ref b12), .val (.int (Int32.ofNat fr)), .val (.int (5 : Int32)), .val (.int (Int32.ofNat last)), .val (.ref b14), .val (.ref b20)] [(.int (Int32.ofNat last)), (.int (5 : Int32)), (.int (Int32.ofNat fr)), (.int p1), (.int (4 : Int32)), (.ref b14)])) _
    refine XS.aload X28.here hx rfl (hb hby at_241) rfl rfl ?_
    show Steps p.tables e below (T28.setTop (mkF m 243 #[.val (.int p1), .val (.int p2), .val (.int p3), .val (.int p4), .val (.int p5), .val (.int p6), .val (.ref b7), .val (.ref b12), .val (.int (Int32.ofNat fr)), .val (.int (5 : Int32)), .val (.int (Int32.ofNat last)), .val (.ref b14), .val (.ref b20)] [(.ref b20), (.int (Int32.ofNat last)), (.int (5 : Int32)), (.int (Int32.ofNat fr)), (.int p1), (.int (4 : Int32)), (.ref b14)])) _
    refine X28.ldc2DoubleC hx hown (mvT hZ (hw _ (List.mem_of_getElem? (i := 22) rfl))) (g := (mkF m 243 #[.val (.int p1), .val (.int p2), .val (.int p3), .val (.int p4), .val (.int p5), .val (.int p6), .val (.ref b7), .val (.ref b12), .val (.int (Int32.ofNat fr)), .val (.int (5 : Int32)), .val (.int (Int32.ofNat last)), .val (.ref b14), .val (.ref b20)] [(.ref b20), (.int (Int32.ofNat last)), (.int (5 : Int32)), (.int (Int32.ofNat fr)), (.int p1), (.int (4 : Int32)), (.ref b14)])) rfl (hb hby at_243) _ ?_
    show Steps p.tables e below (T28.setTop (mkF m 246 #[.val (.int p1), .val (.int p2), .val (.int p3), .val (.int p4), .val (.int p5), .val (.int p6), .val (.ref b7), .val (.ref b12), .val (.int (Int32.ofNat fr)), .val (.int (5 : Int32)), .val (.int (Int32.ofNat last)), .val (.ref b14), .val (.ref b20)] [(.double (4615063718147915776 : UInt64)), (.ref b20), (.int (Int32.ofNat last)), (.int (5 : Int32)), (.int (Int32.ofNat fr)), (.int p1), (.int (4 : Int32)), (.ref b14)])) _
    refine st29 _ ?_
    show Steps p.tables e below (T29.setTop (mkF m 249 #[.val (.int p1), .val (.int p2), .val (.int p3), .val (.int p4), .val (.int p5), .val (.int p6), .val (.ref b7), .val (.ref b12), .val (.int (Int32.ofNat fr)), .val (.int (5 : Int32)), .val (.int (Int32.ofNat last)), .val (.ref b14), .val (.ref b20)] [(.int (1 : Int32))])) _
    refine XS.ifNo X29.here hx rfl (hb hby at_249) rfl ((if0 _ _).trans (feq hq1).1) ?_
    show Steps p.tables e below (T29.setTop (mkF m 252 #[.val (.int p1), .val (.int p2), .val (.int p3), .val (.int p4), .val (.int p5), .val (.int p6), .val (.ref b7), .val (.ref b12), .val (.int (Int32.ofNat fr)), .val (.int (5 : Int32)), .val (.int (Int32.ofNat last)), .val (.ref b14), .val (.ref b20)] [])) _
    refine XS.iconst X29.here hx rfl (hb hby at_252) ?_
    show Steps p.tables e below (T29.setTop (mkF m 253 #[.val (.int p1), .val (.int p2), .val (.int p3), .val (.int p4), .val (.int p5), .val (.int p6), .val (.ref b7), .val (.ref b12), .val (.int (Int32.ofNat fr)), .val (.int (5 : Int32)), .val (.int (Int32.ofNat last)), .val (.ref b14), .val (.ref b20)] [(.int (1 : Int32))])) _
    refine XS.goto X29.here hx rfl (pc0 := 253) (pc' := 257) rfl (hb hby at_253) (by decide) (by decide) ?_
    show Steps p.tables e below (T29.setTop (mkF m 257 #[.val (.int p1), .val (.int p2), .val (.int p3), .val (.int p4), .val (.int p5), .val (.int p6), .val (.ref b7), .val (.ref b12), .val (.int (Int32.ofNat fr)), .val (.int (5 : Int32)), .val (.int (Int32.ofNat last)), .val (.ref b14), .val (.ref b20)] [(.int (1 : Int32))])) _
    exact retN X29 hx (t := .boolean) Bd.returns (by simp) (hb hby at_257) hr
  · show QL n0 _ T29.heap _
    exact ⟨rfl, N29⟩
theorem own_ofN {x : Int32} (h1 : 0 ≤ x.toInt) (h2 : x.toInt ≤ 8) : x = Int32.ofNat x.toInt.toNat := by
  refine Int32.toInt_inj.mp ?_
  rw [own_nI (by omega)]; omega
theorem own_and3 (x : Int32) : 0 ≤ (x &&& (3 : Int32)).toInt ∧ (x &&& (3 : Int32)).toInt ≤ 3 := c_and x (3 : Int32) (by decide)
theorem own_plus {x y : Int32} (h1 : 0 ≤ x.toInt) (h2 : x.toInt ≤ 8) (h3 : 0 ≤ y.toInt) (h4 : y.toInt ≤ 8) : (x + y).toInt = x.toInt + y.toInt := by
  have h5 := c_iadd x y
  have h6 := Int32.toInt_lt (x + y)
  have h7 := Int32.le_toInt (x + y)
  omega
theorem own_last (x : Int32) : 0 ≤ ((x &&& (7 : Int32)) % (5 : Int32)).toInt ∧ ((x &&& (7 : Int32)) % (5 : Int32)).toInt ≤ 4 := by
  have h1 := c_and x (7 : Int32) (by decide)
  have h2 := (c_irem (x &&& (7 : Int32)) (5 : Int32) 5 rfl).1 h1.1
  omega
theorem rm0 (l : Launch) (Z : State) (a0 : Array Value) (hw : ∀ d ∈ tables_1, d.before a0 Z = true) (ws : List Jvm.Cond) (p1 : Int32) (p2 : Int32) (p3 : Int32) (p4 : Int32) (p5 : Int32) (p6 : Int32) (h0 : Heap) (n0 : Nat) (Z0 : n0 ≤ h0.size) :
    MetFree l x (head1 (Jvm.Cond.code x code maxLocals ret :: ws) room_1) (fun a U => a = #[(.int p1), (.int p2), (.int p3), (.int p4), (.int p5), (.int p6)] ∧ Z.Warmed39 U.vm ∧ U.heap = h0) (fun _ _ _ _ _ => True) (fun _ U o U' => ∃ v L, o = .returned v ∧ QL n0 v U'.heap L ∧ FrameEnd U o U' L room_1.cells room_1.slots) := by
  obtain ⟨m1, m2⟩ := own_and3 p2
  have o1 : (1 : Int32).toInt = 1 := rfl
  have s1 := own_plus (x := (1 : Int32)) (y := p2 &&& (3 : Int32)) (by decide) (by decide) m1 (by omega)
  rw [o1] at s1
  have e1 := own_ofN (x := (1 : Int32) + (p2 &&& (3 : Int32))) (by omega) (by omega)
  obtain ⟨m3, m4⟩ := own_and3 ((p2.toUInt32 >>> ((2 : Int32) &&& 31).toUInt32).toInt32)
  obtain ⟨m5, m6⟩ := own_last ((p2.toUInt32 >>> ((4 : Int32) &&& 31).toUInt32).toInt32)
  have e3 := own_ofN m5 (by omega)
  generalize hF : (((1 : Int32) + (p2 &&& (3 : Int32))).toInt).toNat = fr at *
  generalize hL : (((((p2.toUInt32 >>> ((4 : Int32) &&& 31).toUInt32).toInt32) &&& (7 : Int32)) % (5 : Int32)).toInt).toNat = last at *
  have n1 : (Int32.ofNat fr).toInt = (fr : Int) := own_nI (by omega)
  have s2 := own_plus (x := Int32.ofNat fr) (y := ((p2.toUInt32 >>> ((2 : Int32) &&& 31).toUInt32).toInt32) &&& (3 : Int32)) (by omega) (by omega) m3 (by omega)
  by_cases h : (5 : Int32) < Int32.ofNat fr + (((p2.toUInt32 >>> ((2 : Int32) &&& 31).toUInt32).toInt32) &&& (3 : Int32))
  · exact rm0_fffff l Z a0 hw ws p1 p2 p3 p4 p5 p6 _ fr last h0 n0 Z0 (by omega) (by omega) (by omega) (by decide) (by omega) e1 rfl h e3 (by decide)
  · have h' : ¬ 5 < (Int32.ofNat fr + (((p2.toUInt32 >>> ((2 : Int32) &&& 31).toUInt32).toInt32) &&& (3 : Int32))).toInt := fun q => h (Int32.lt_iff_toInt_lt.mpr q)
    have e2 := own_ofN (x := Int32.ofNat fr + (((p2.toUInt32 >>> ((2 : Int32) &&& 31).toUInt32).toInt32) &&& (3 : Int32))) (by omega) (by omega)
    exact rm0_tffff l Z a0 hw ws p1 p2 p3 p4 p5 p6 fr _ last h0 n0 Z0 (by omega) (by omega) (by omega) (by omega) (by omega) e1 e2 (by rw [← e2]; exact h) e3 (by decide)
set_option maxRecDepth 65536 in
set_option maxHeartbeats 40000000 in
theorem comes_1 {Post : Tables → Env → Array Value → State → Outcome → State → Prop} (hpost : ∀ tb e args s v u, (limb_1_1.after args s (.returned v) u = true ∧ limb_1_2.after args s (.returned v) u = true ∧ True) → FrameEnd s (.returned v) u (Jvm.fieldLocs frame_1_writes args s ++ Jvm.arrayLocs frame_1_arrays args s ++ Jvm.staticLocs frame_1_statics s) 24 128 → Post tb e args s (.returned v) u) :
    ArmFor flags0 classFile x code maxLocals ret World_1 tables_1 room_1 Calls_1 rest_1 Pre_1 Post := by
  intro l hfl _ _ p e ha hc hk s m args below hf hA hF happ hP
  obtain ⟨hcalls, hrest, hpre⟩ := hP
  obtain ⟨-, -, -, hnamed, -, -, -, hat⟩ := (Spec.applies_iff hf).mp happ
  obtain ⟨hg, hn⟩ := and_e (Cond.before_iff.mp (show (Jvm.Cond.and given_1 narrow_1).before args s = true from hpre))
  obtain ⟨g30, g31⟩ := and_e hg
  obtain ⟨g32, g33⟩ := and_e g31
  obtain ⟨g34, g35⟩ := and_e g33
  obtain ⟨g36, g37⟩ := and_e g35
  obtain ⟨g38, g39⟩ := and_e g37
  obtain ⟨g40, g41⟩ := and_e g39
  obtain ⟨w0, w1, w2, w3, w4, w5, rfl⟩ : ∃ w0 w1 w2 w3 w4 w5 : Value, args = #[w0, w1, w2, w3, w4, w5] := by
    have hs : args.size = 6 := by simpa [Cond.value, given_1] using g30
    obtain ⟨L⟩ := args
    match L, hs with
    | [w0, w1, w2, w3, w4, w5], _ => exact ⟨w0, w1, w2, w3, w4, w5, rfl⟩
  have hw := fun d (hd : d ∈ tables_1) => atoms_spec (ws := Jvm.Cond.code x code maxLocals ret :: tables_1) hat d (List.mem_cons_of_mem _ hd)
  have hfit : Fit s := fun {y c} hc i hi => by
    obtain ⟨ha, rfl⟩ := Array.getElem?_eq_some_iff.mp hc
    have q := List.all_eq_true.mp ((Array.all_eq_true_iff_forall_mem.mp hF) _ (Array.getElem_mem ha)) i (List.mem_range.mpr hi)
    simpa [Array.getElem?_eq_getElem hi] using q
  obtain ⟨i0, ei0⟩ := is_v g32
  obtain rfl : w0 = (.int i0) := Option.some.inj ei0
  obtain ⟨i1, ei1⟩ := is_v g34
  obtain rfl : w1 = (.int i1) := Option.some.inj ei1
  obtain ⟨i2, ei2⟩ := is_v g36
  obtain rfl : w2 = (.int i2) := Option.some.inj ei2
  obtain ⟨i3, ei3⟩ := is_v g38
  obtain rfl : w3 = (.int i3) := Option.some.inj ei3
  obtain ⟨i4, ei4⟩ := is_v g40
  obtain rfl : w4 = (.int i4) := Option.some.inj ei4
  obtain ⟨i5, ei5⟩ := is_v g41
  obtain rfl : w5 = (.int i5) := Option.some.inj ei5
  obtain ⟨n, o, h1, h2, h3, _, L, rfl, ⟨rfl, N⟩, hq⟩ := rm0 l s _ hw tables_1 i0 i1 i2 i3 i4 i5 s.heap s.heap.size (Nat.le_refl _) p e ha hc hk s m _ below hf ((Spec.applies_iff_loose hf).mp happ).1 ⟨rfl, State.Warmed39.refl s, rfl⟩ trivial
  refine ⟨n, _, h1, h2, h3, hpost _ _ _ _ _ _ ⟨Cond.after_iff.mpr rfl, Cond.after_iff.mpr (eq_i res_at (Term.int_eval (1)) rfl), trivial⟩ ⟨hq.1, hq.2.1, (hq.2.2.sift fun y hy => Or.inr (N y hy)).mono (by decide) (by decide)⟩⟩
theorem main_1_1 : Claimed_1_1 := comes_1 fun _ _ _ _ _ _ h hF => ⟨h.1, hF⟩
theorem main_1_2 : Claimed_1_2 := comes_1 fun _ _ _ _ _ _ h hF => ⟨h.2.1, hF⟩

end Jvm.Pilot.@@N@@
namespace Jvm.Pilot.@@N@@
open Jvm Jvm.ClassFile Sem Op Lib Jvm.Free Jvm.Stand Jvm.Pilot.@@N@@.Jvm.D
/-! MADE BY PROGRAM (witnessworld.py) out of the Statement's table words and the real class files: 13 classes; the members and pool entries that the words name. The judged class is class 1, her method 1. -/
namespace start1
open Jvm.ClassFile
def u (s : String) : CpInfo := .utf8 (stringToUtf16 s)
/-- a pool by its gaps: so many unusable entries, then the entry; so many at the end -/
def gap : Nat → List CpInfo → List CpInfo
  | 0, r => r
  | n + 1, r => .unusable :: gap n r
def poolList (es : List (Nat × CpInfo)) (last : Nat) : List CpInfo := es.foldr (fun e r => gap e.1 (e.2 :: r)) (gap last [])
def pool (es : List (Nat × CpInfo)) (last : Nat) : Array CpInfo := ⟨poolList es last⟩
def fileOf (pool : Array CpInfo) (this : Nat) (attrs : Array Attribute := #[]) (ms : Array MethodInfo := #[]) (fl : Nat := 33) (sup : Nat := 0) (ifs : Array Nat := #[]) (fds : Array FieldInfo := #[]) : ClassFile where
  minorVersion := 0
  majorVersion := 65
  constantPool := pool
  accessFlags := fl
  thisClass := this
  superClass := sup
  interfaces := ifs
  fields := fds
  methods := ms
  attributes := attrs
def plain (name : String) (sup : Option ClassId) : Class where
  name := name
  kind := .ordinary
  loader := none
  accessFlags := 33
  super := sup
  interfaces := #[]
  cf := none
  fields := #[]
  methods := #[]
  instanceTypes := #[]
  staticTypes := #[]
  resolved := #[]
  callSites := []
  init := .initialized
  statics := none
  mirror := none

def pool0 : Array CpInfo := pool [(5, u "<init>"), (0, u "()V"), (1, .class_ 10), (1, u "java/lang/Object")] 113

def k0c0 : Code := { maxStack := 0, maxLocals := 1, code := object_method_1_code, exceptionTable := #[], attributes := #[] }
def k0m0 : Method := { name := "<init>", desc := "()V", sig := { parameters := [], returnType := none }, accessFlags := 1, code := some k0c0 }
/-- java/lang/Object -/
def k0 : Class := { plain "java/lang/Object" none with
  accessFlags := 33
  interfaces := #[]
  cf := some (fileOf pool0 8 #[] #[{ accessFlags := 1, nameIndex := 5, descriptorIndex := 6, attributes := #[] }] 33 0 #[] #[])
  fields := #[]
  methods := #[k0m0]
  instanceTypes := #[]
  staticTypes := #[]
  resolved := Array.replicate 124 none
  statics := none }

def pool1 : Array CpInfo := pool [(2, .class_ 4), (1, u "java/lang/Object"), (0, u "<init>"), (0, u "()V"), (0, .class_ 8), (0, u "com/example/cycle_by_chance/cyclebychance/model/DemandToDate"), (0, .methodref 7 10), (0, .nameAndType 5 11), (0, u "([D)V"), (0, .double 4602678819172646912), (1, .double 4609434218613702656), (1, .double 4612811918334230528), (1, .double 4615063718147915776), (1, .methodref 7 21), (0, .nameAndType 22 23), (0, u "drawDown"), (0, u "(DIII[D)V"), (0, .methodref 25 26), (0, .class_ 27), (0, .nameAndType 28 29), (0, u "com/example/cycle_by_chance/cyclebychance/model/DemandToDateDrawDownPinLaw"), (0, u "ok"), (0, u "([DIIIII[JD)Z"), (2, u "law"), (0, u "(IIIIII)Z")] 7

def k1m0 : Method := { name := "<init>", desc := "()V", sig := { parameters := [], returnType := none }, accessFlags := 1, code := none }
def k1c1 : Code := { maxStack := 9, maxLocals := 13, code := code, exceptionTable := #[], attributes := #[] }
def k1m1 : Method := { name := "law", desc := "(IIIIII)Z", sig := { parameters := [.int, .int, .int, .int, .int, .int], returnType := some .boolean }, accessFlags := 9, code := some k1c1 }
def k1c2 : Code := { maxStack := 7, maxLocals := 11, code := method_3_code, exceptionTable := #[], attributes := #[] }
def k1m2 : Method := { name := "ok", desc := "([DIIIII[JD)Z", sig := { parameters := [(.array .double), .int, .int, .int, .int, .int, (.array .long), .double], returnType := some .boolean }, accessFlags := 10, code := some k1c2 }
/-- com/example/cycle_by_chance/cyclebychance/model/DemandToDateDrawDownPinLaw -/
def k1 : Class := { plain "com/example/cycle_by_chance/cyclebychance/model/DemandToDateDrawDownPinLaw" (some 0) with
  accessFlags := 49
  interfaces := #[]
  cf := some (fileOf pool1 25 #[] #[{ accessFlags := 1, nameIndex := 5, descriptorIndex := 6, attributes := #[] }, { accessFlags := 9, nameIndex := 32, descriptorIndex := 33, attributes := #[] }, { accessFlags := 10, nameIndex := 28, descriptorIndex := 29, attributes := #[] }] 49 2 #[] #[])
  fields := #[]
  methods := #[k1m0, k1m1, k1m2]
  instanceTypes := #[]
  staticTypes := #[]
  resolved := Array.replicate 41 none
  statics := none }

def pool2 : Array CpInfo := pool [(1, .methodref 2 3), (0, .class_ 4), (0, .nameAndType 5 6), (0, u "java/lang/Object"), (0, u "<init>"), (0, u "()V"), (0, .fieldref 8 9), (0, .class_ 10), (0, .nameAndType 11 12), (0, u "com/example/cycle_by_chance/cyclebychance/model/DemandToDate"), (0, u "demand"), (0, u "[D"), (0, .fieldref 8 14), (0, .nameAndType 15 12), (0, u "through"), (0, .fieldref 8 17), (0, .nameAndType 18 12), (0, u "summed"), (0, .fieldref 8 20), (0, .nameAndType 21 22), (0, u "above"), (0, u "[I"), (6, u "drawDown"), (0, u "(DIII[D)V"), (41, u "([D)V"), (25, .class_ 99), (0, u "com/example/cycle_by_chance/cyclebychance/model/DemandToDate$Drawdown")] 2

def k2c0 : Code := { maxStack := 7, maxLocals := 3, code := prog_20_method_1_code, exceptionTable := #[], attributes := #[] }
def k2m0 : Method := { name := "<init>", desc := "([D)V", sig := { parameters := [(.array .double)], returnType := none }, accessFlags := 0, code := some k2c0 }
def k2c1 : Code := { maxStack := 6, maxLocals := 10, code := prog_20_method_8_code, exceptionTable := #[], attributes := #[] }
def k2m1 : Method := { name := "drawDown", desc := "(DIII[D)V", sig := { parameters := [.double, .int, .int, .int, (.array .double)], returnType := none }, accessFlags := 0, code := some k2c1 }
/-- com/example/cycle_by_chance/cyclebychance/model/DemandToDate -/
def k2 : Class := { plain "com/example/cycle_by_chance/cyclebychance/model/DemandToDate" (some 0) with
  accessFlags := 33
  interfaces := #[]
  cf := some (fileOf pool2 8 #[.nestMembers #[98]] #[{ accessFlags := 0, nameIndex := 5, descriptorIndex := 72, attributes := #[] }, { accessFlags := 0, nameIndex := 29, descriptorIndex := 30, attributes := #[] }] 33 2 #[] #[{ accessFlags := 18, nameIndex := 11, descriptorIndex := 12, attributes := #[] }, { accessFlags := 18, nameIndex := 15, descriptorIndex := 12, attributes := #[] }, { accessFlags := 18, nameIndex := 18, descriptorIndex := 12, attributes := #[] }, { accessFlags := 18, nameIndex := 21, descriptorIndex := 22, attributes := #[] }])
  fields := #[{ name := "demand", type := (.array .double), accessFlags := 18, slot := 0, constantValue := 0 }, { name := "through", type := (.array .double), accessFlags := 18, slot := 1, constantValue := 0 }, { name := "summed", type := (.array .double), accessFlags := 18, slot := 2, constantValue := 0 }, { name := "above", type := (.array .int), accessFlags := 18, slot := 3, constantValue := 0 }]
  methods := #[k2m0, k2m1]
  instanceTypes := #[(.array .double), (.array .double), (.array .double), (.array .int)]
  staticTypes := #[]
  resolved := Array.replicate 102 none
  statics := none }

def pool3 : Array CpInfo := pool [(1, u "java/lang/Cloneable"), (0, .class_ 1), (0, u "java/lang/Object"), (0, .class_ 3)] 3

/-- java/lang/Cloneable -/
def k3 : Class := { plain "java/lang/Cloneable" (some 0) with
  accessFlags := 1537
  interfaces := #[]
  cf := some (fileOf pool3 2 #[] #[] 1537 4 #[] #[])
  fields := #[]
  methods := #[]
  instanceTypes := #[]
  staticTypes := #[]
  resolved := Array.replicate 8 none
  statics := none }

def pool4 : Array CpInfo := pool [(1, u "java/io/Serializable"), (0, .class_ 1), (0, u "java/lang/Object"), (0, .class_ 3)] 3

/-- java/io/Serializable -/
def k4 : Class := { plain "java/io/Serializable" (some 0) with
  accessFlags := 1537
  interfaces := #[]
  cf := some (fileOf pool4 2 #[] #[] 1537 4 #[] #[])
  fields := #[]
  methods := #[]
  instanceTypes := #[]
  staticTypes := #[]
  resolved := Array.replicate 8 none
  statics := none }

/-- the primitive byte -/
def k5 : Class := { plain "byte" none with kind := .primitive 'B', accessFlags := 0x411 }
/-- [B -/
def k6 : Class := { plain "[B" (some 0) with kind := .array 5 .byte, interfaces := #[3, 4], accessFlags := 1041 }

/-- the primitive double -/
def k7 : Class := { plain "double" none with kind := .primitive 'D', accessFlags := 0x411 }
/-- [D -/
def k8 : Class := { plain "[D" (some 0) with kind := .array 7 .double, interfaces := #[3, 4], accessFlags := 1041 }

/-- the primitive int -/
def k9 : Class := { plain "int" none with kind := .primitive 'I', accessFlags := 0x411 }
/-- [I -/
def k10 : Class := { plain "[I" (some 0) with kind := .array 9 .int, interfaces := #[3, 4], accessFlags := 1041 }

/-- the primitive long -/
def k11 : Class := { plain "long" none with kind := .primitive 'J', accessFlags := 0x411 }
/-- [J -/
def k12 : Class := { plain "[J" (some 0) with kind := .array 11 .long, interfaces := #[3, 4], accessFlags := 1041 }

def heap : Heap := #[]
def classes : Array Class := #[k0, k1, k2, k3, k4, k5, k6, k7, k8, k9, k10, k11, k12]
def interned : List (Array UInt16 × Addr) := []
def slotsUsed : Nat := 0
def theMethod : MethodId := ⟨1, 1⟩
def args0 : Array Value := #[.int 50, .int 7, .int 9, .int 3, .int 1, .int 4]
def aboutOver (below : List Frame) : State where
  vm := { classes := classes, interned := interned.toArray }
  heap := heap
  slotsUsed := slotsUsed
  threads := #[{ frames := .invoking theMethod args0 :: below }]
def below0 : List Frame := [.native { method := ⟨0, 0⟩, args := #[] }]
def about1 : State := aboutOver below0
def p0 : Program := .bare "" "" ""
def e0 : Env := launch0.env 0 0 0
theorem w_frames : about1.frames = Frame.invoking theMethod args0 :: below0 := rfl
set_option maxRecDepth 65536 in
theorem w_args : argsFit about1.vm theMethod args0 = true := by decide +kernel
set_option maxRecDepth 65536 in
theorem w_heap : heapFits about1 = true := by decide +kernel
set_option maxRecDepth 65536 in
theorem w_runnable : about1.curStatus? = some .runnable := by decide +kernel
set_option maxRecDepth 65536 in
theorem w_alone : about1.alone = true := by decide +kernel
set_option maxRecDepth 65536 in
theorem w_named : about1.methodNamed? x = some theMethod := by decide +kernel
set_option maxRecDepth 65536 in
theorem w_hears : about1.hears theMethod below0 = true := by decide +kernel
set_option maxRecDepth 65536 in
theorem w_ripe : about1.ripe theMethod args0 below0 = true := by decide +kernel
theorem w_running : about1.status = .running := rfl
set_option maxRecDepth 65536 in
theorem w_room : about1.hasRoom e0.platform room_1 = true :=
  launch0.hasRoom_least _ room_1 (by decide +kernel) (by decide +kernel) (by decide +kernel) (by decide +kernel) (by decide +kernel) (by decide +kernel)
theorem allAtoms_all (ts : List Jvm.Cond) (a : Array Jvm.Value) (st : Jvm.State) : (allAtoms ts).before a st = ts.all (fun c => c.before a st) := by
  induction ts with
  | nil => rfl
  | cons c t ih =>
    show (Jvm.Cond.and c (allAtoms t)).before a st = _
    rw [Jvm.Cond.before_and, ih, List.all_cons]
def words1 : List Jvm.Cond := Jvm.Cond.code x code maxLocals ret :: tables_1
/-- a 'code' word, met by the world's own term for the bytes: nothing is compared byte by byte -/
theorem code_word {y : MethodName} {bytes : ByteArray} {mx : Nat} {rt : Option FieldType} {a : Array Value} {s : State} {m : MethodId} {meth : Method} {c : Code} (h1 : s.methodNamed? y = some m) (h2 : s.vm.method? m = some meth) (h3 : meth.code = some c) (h4 : c.code = bytes)
    (h5 : (c.maxLocals == mx && c.exceptionTable.isEmpty && decide (c.maxStack ≤ mostOperands) && decide (meth.sig.returnType = rt) && !meth.locks && decide (parseMethodDescriptor y.desc = some meth.sig)) = true) : (Jvm.Cond.code y bytes mx rt).before a s = true := by
  simp only [Bool.and_eq_true, beq_iff_eq, Bool.not_eq_true', decide_eq_true_eq] at h5
  obtain ⟨⟨⟨⟨⟨g1, g2⟩, g3⟩, g4⟩, g5⟩, g6⟩ := h5
  simp [Cond.before, Cond.holds, Cond.value, h1, h2, h3, h4, g1, g2, g3, g4, g5, g6]
def isCode : Jvm.Cond → Bool
  | .code _ _ _ _ => true
  | _ => false
theorem all_split {L : List Jvm.Cond} {P : Jvm.Cond → Bool} (h1 : L.all (fun c => isCode c || P c) = true) (h2 : ∀ c ∈ L.filter isCode, P c = true) : L.all P = true := by
  refine List.all_eq_true.mpr fun c hc => ?_
  have h := List.all_eq_true.mp h1 c hc
  rcases Bool.eq_false_or_eq_true (isCode c) with hi | hi
  · exact h2 c (List.mem_filter.mpr ⟨hc, hi⟩)
  · simpa [hi] using h
set_option maxRecDepth 65536 in
theorem w_c0 : (Jvm.Cond.code x code maxLocals ret).before args0 about1 = true := code_word (m := ⟨1, 1⟩) (meth := k1m1) (c := k1c1) (by decide +kernel) rfl rfl rfl (by decide +kernel)
set_option maxRecDepth 65536 in
theorem w_c1 : (Jvm.Cond.code ({ cls := "com/example/cycle_by_chance/cyclebychance/model/DemandToDate", name := "<init>", desc := "([D)V" } : Jvm.MethodName) prog_20_method_1_code (3 : Nat) (Option.none : Option Jvm.ClassFile.FieldType)).before args0 about1 = true := code_word (m := ⟨2, 0⟩) (meth := k2m0) (c := k2c0) (by decide +kernel) rfl rfl rfl (by decide +kernel)
set_option maxRecDepth 65536 in
theorem w_c2 : (Jvm.Cond.code ({ cls := "java/lang/Object", name := "<init>", desc := "()V" } : Jvm.MethodName) object_method_1_code (1 : Nat) (Option.none : Option Jvm.ClassFile.FieldType)).before args0 about1 = true := code_word (m := ⟨0, 0⟩) (meth := k0m0) (c := k0c0) (by decide +kernel) rfl rfl rfl (by decide +kernel)
set_option maxRecDepth 65536 in
theorem w_c3 : (Jvm.Cond.code ({ cls := "com/example/cycle_by_chance/cyclebychance/model/DemandToDate", name := "drawDown", desc := "(DIII[D)V" } : Jvm.MethodName) prog_20_method_8_code (10 : Nat) (Option.none : Option Jvm.ClassFile.FieldType)).before args0 about1 = true := code_word (m := ⟨2, 1⟩) (meth := k2m1) (c := k2c1) (by decide +kernel) rfl rfl rfl (by decide +kernel)
set_option maxRecDepth 65536 in
theorem w_c4 : (Jvm.Cond.code ({ cls := "com/example/cycle_by_chance/cyclebychance/model/DemandToDateDrawDownPinLaw", name := "ok", desc := "([DIIIII[JD)Z" } : Jvm.MethodName) method_3_code (11 : Nat) (Option.some Jvm.ClassFile.FieldType.boolean)).before args0 about1 = true := code_word (m := ⟨1, 2⟩) (meth := k1m2) (c := k1c2) (by decide +kernel) rfl rfl rfl (by decide +kernel)
def codes1 : List Jvm.Cond := [Jvm.Cond.code x code maxLocals ret, Jvm.Cond.code ({ cls := "com/example/cycle_by_chance/cyclebychance/model/DemandToDate", name := "<init>", desc := "([D)V" } : Jvm.MethodName) prog_20_method_1_code (3 : Nat) (Option.none : Option Jvm.ClassFile.FieldType), Jvm.Cond.code ({ cls := "java/lang/Object", name := "<init>", desc := "()V" } : Jvm.MethodName) object_method_1_code (1 : Nat) (Option.none : Option Jvm.ClassFile.FieldType), Jvm.Cond.code ({ cls := "com/example/cycle_by_chance/cyclebychance/model/DemandToDate", name := "drawDown", desc := "(DIII[D)V" } : Jvm.MethodName) prog_20_method_8_code (10 : Nat) (Option.none : Option Jvm.ClassFile.FieldType), Jvm.Cond.code ({ cls := "com/example/cycle_by_chance/cyclebychance/model/DemandToDateDrawDownPinLaw", name := "ok", desc := "([DIIIII[JD)Z" } : Jvm.MethodName) method_3_code (11 : Nat) (Option.some Jvm.ClassFile.FieldType.boolean)]
set_option maxRecDepth 65536 in
theorem codes_eq : words1.filter isCode = codes1 := rfl
theorem w_codes : ∀ c ∈ words1.filter isCode, c.before args0 about1 = true := by
  rw [codes_eq]
  intro c hc
  simp only [codes1, List.mem_cons, List.not_mem_nil, or_false] at hc
  rcases hc with rfl | rfl | rfl | rfl | rfl
  · exact w_c0
  · exact w_c1
  · exact w_c2
  · exact w_c3
  · exact w_c4
set_option maxRecDepth 65536 in
theorem w_t1 : (words1.take 24).all (fun c => isCode c || c.before args0 about1) = true := by decide +kernel
set_option maxRecDepth 65536 in
theorem w_t2 : (words1.drop 24).all (fun c => isCode c || c.before args0 about1) = true := by decide +kernel
theorem w_tables : (allAtoms (Jvm.Cond.code x code maxLocals ret :: tables_1)).before args0 about1 = true := by
  rw [allAtoms_all]
  show words1.all (fun c => c.before args0 about1) = true
  refine all_split ?_ w_codes
  rw [← List.take_append_drop 24 words1, List.all_append, w_t1, w_t2]
  rfl
set_option maxRecDepth 65536 in
theorem w_case : (Jvm.Cond.and given_1 narrow_1).before args0 about1 = true := by decide +kernel
theorem w_applies : (headSpec (Jvm.Cond.code x code maxLocals ret :: tables_1) room_1).applies x e0.platform about1 = true :=
  (Spec.applies_iff w_frames).mpr ⟨w_running, w_runnable, w_alone, w_named, w_hears, w_ripe, w_room, w_tables⟩
theorem atStart : AtStart classFile x code maxLocals ret World_1 tables_1 room_1 Calls_1 rest_1 Pre_1 launch0 p0 e0 about1 theMethod args0 below0 :=
  ⟨lists_1, trivial, launch0.admits_env _ _ _, launch0.least_env, fairChoices_fair.cas, fairChoices_fair.clock, w_frames, w_args, w_heap, w_applies, trivial, trivial, w_case⟩
end start1
theorem witness_1 : WitnessClaimed_1 := ⟨start1.p0, start1.e0, start1.about1, start1.theMethod, start1.args0, start1.below0, start1.atStart⟩
end Jvm.Pilot.@@N@@
