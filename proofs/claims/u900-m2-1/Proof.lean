import JvmDerived
import JvmDerived.Pilot.@@N@@Statement
import JvmDerived.Pilot.@@N@@Code
set_option linter.unusedVariables false
set_option linter.unusedSimpArgs false
namespace Jvm.RoadKit
open Sem ClassFile Op Lib Jvm.Stand Jvm.Free Jvm.LawKit
section New
variable {p : Program} {l : Launch} {e : Env} {R : Room} {s : State} {m : MethodId} {args : Array Value} {below : List Frame} {meth : Method} {c : Code} {T : State} {locs : List Loc} {cells slots : Nat}
theorem retI (X : Stand p l e R s m args below meth c T locs cells slots) (hx : p.tables.exec = Jvm.exec) {pc : Nat} {Ls : Array Slot} {z : Int32} {rest : List Value} (hret : meth.sig.returnType = some .int) (hd : decode c.code pc = .ok (.ireturn, 1)) {fs : List Frame}
    (hl : ∀ (f : JFrame) (acts : List Action), f.method = m → f.locked = none → f.entered = [] → (doReturn e (T.setTop f) acts (some (.int z))).1 = T.setFrames fs) : Steps p.tables e below (T.setTop (mkF m pc Ls (.int z :: rest))) (T.setFrames fs) := by
  have hm' : T.vm.method? m = some meth := X.method'
  have hn : narrow .int (.int z) = .int z := rfl
  show Steps p.tables e below (T.setTop { method := m, pc := pc, locals := Ls, stack := _ :: rest, locked := none }) _
  jvm_step X.here [X.here.top, hx, hd, hm', hret, hn]
  first | (intro acts; rw [hl _ acts rfl rfl rfl]) | rw [hl _ _ rfl rfl rfl]
  exact Steps.refl _
end New
end Jvm.RoadKit
namespace Jvm.Pilot.@@N@@
section OwnFl
open Jvm.FP.Core
/-- a double's value in units of 2^-1074 -/
def own_z (a : UInt64) : Int := zval b64 (val64 a)
theorem own_signed (N : Int) : signed (decide (N < 0)) N.natAbs = N := by
  unfold signed
  by_cases h : N < 0
  · simp only [h, decide_true, if_true]; omega
  · simp only [h, decide_false, Bool.false_eq_true, if_false]; omega
theorem own_qmax : b64.qmax = 971 := by decide
theorem own_p : b64.p = 53 := rfl
theorem own_rep {N : Int} {j : Nat} (hN : N.natAbs < 2 ^ 53) (hj : j ≤ 2045) :
    ∃ V : Datum, Jvm.FP.Core.fits b64 V ∧ V ≠ .nan ∧ (∀ s, V ≠ .inf s) ∧ zval b64 V = N * ((2 ^ j : Nat) : Int) := by
  obtain ⟨c', q', h1, h2⟩ := round_exact good_b64 (decide (N < 0)) (c := N.natAbs) (q := (j : Int) - 1074) hN (by rw [qmin_b64]; omega) (by rw [own_qmax]; omega)
  refine ⟨.fin (decide (N < 0)) c' q', h1 ▸ round_fits good_b64 _, by simp, by simp, ?_⟩
  show signed (decide (N < 0)) (inUnits c' q' b64.qmin) = _
  rw [h2]
  unfold inUnits
  rw [qmin_b64, signed_mul, own_signed, show ((j : Int) - 1074 - -1074).toNat = j by omega]
theorem own_top {V : Datum} (h1 : Jvm.FP.Core.fits b64 V) (h2 : V ≠ .nan) (h3 : ∀ s, V ≠ .inf s) : zmag b64 V < b64.tails * 2 ^ (b64.exps - 2) := by
  cases V with
  | nan => exact absurd rfl h2
  | inf s => exact absurd rfl (h3 s)
  | fin s c q => exact zmag_lt_top good_b64 h1
theorem own_zabs (d : Datum) : (zval b64 d).natAbs = zmag b64 d := natAbs_signed _ _
theorem own_fin {a : UInt64} (hn : val64 a ≠ .nan) {N : Int} {j : Nat} (hN : N.natAbs < 2 ^ 53) (hj : j ≤ 2045)
    (h1 : -(N * ((2 ^ j : Nat) : Int)) ≤ own_z a) (h2 : own_z a ≤ N * ((2 ^ j : Nat) : Int)) : DFin a := by
  obtain ⟨V, f1, f2, f3, f4⟩ := own_rep hN hj
  have t := own_top f1 f2 f3
  rw [← f4] at h1 h2
  have e1 := own_zabs V
  have e2 := own_zabs (val64 a)
  have e3 : own_z a = zval b64 (val64 a) := rfl
  cases hd : val64 a with
  | nan => exact absurd hd hn
  | inf s =>
    rw [hd] at e2 e3
    have e4 : zmag b64 (.inf s) = b64.tails * 2 ^ (b64.exps - 2) := rfl
    rw [e4] at e2
    generalize b64.tails * 2 ^ (b64.exps - 2) = X at *
    omega
  | fin s c q => exact ⟨s, c, q, hd⟩
theorem own_nn {a : UInt64} (h : DFin a) : Jvm.Free.Fl.NoNaN64 a := (Jvm.Free.Fl.fin64_core.mpr h).noNaN
theorem own_z_neg (a : UInt64) : own_z (Jvm.FP.dneg a) = -own_z a := by
  unfold own_z
  rw [Jvm.FP.val64_dneg, zval_negate]
theorem own_fin_neg {a : UInt64} (h : DFin a) : DFin (Jvm.FP.dneg a) := by
  obtain ⟨s, c, q, h⟩ := h
  exact ⟨!s, c, q, by rw [Jvm.FP.val64_dneg, h]; rfl⟩
-- sums
theorem own_add_nn {a b : UInt64} (ha : DFin a) (hb : DFin b) : val64 (Jvm.FP.dadd a b) ≠ .nan := (notNaN_iff _).mp (dadd_out ha.notNaN hb)
theorem own_add_le {a b : UInt64} (ha : DFin a) (hb : DFin b) {N : Int} {j : Nat} (hN : N.natAbs < 2 ^ 53) (hj : j ≤ 2045)
    (h : own_z a + own_z b ≤ N * ((2 ^ j : Nat) : Int)) : own_z (Jvm.FP.dadd a b) ≤ N * ((2 ^ j : Nat) : Int) := by
  obtain ⟨V, f1, f2, -, f4⟩ := own_rep hN hj
  have q := sum_le good_b64 ha hb (val64_fits a) (val64_fits b) f1 f2 (by rw [f4]; exact h)
  rw [f4, ← val64_dadd] at q
  exact q
theorem own_add_ge {a b : UInt64} (ha : DFin a) (hb : DFin b) {N : Int} {j : Nat} (hN : N.natAbs < 2 ^ 53) (hj : j ≤ 2045)
    (h : N * ((2 ^ j : Nat) : Int) ≤ own_z a + own_z b) : N * ((2 ^ j : Nat) : Int) ≤ own_z (Jvm.FP.dadd a b) := by
  obtain ⟨V, f1, f2, -, f4⟩ := own_rep hN hj
  have q := sum_ge good_b64 ha hb (val64_fits a) (val64_fits b) f1 f2 (by rw [f4]; exact h)
  rw [f4, ← val64_dadd] at q
  exact q
theorem own_fin_abs {a : UInt64} (hn : val64 a ≠ .nan) {N : Int} {j : Nat} (hN : N.natAbs < 2 ^ 53) (hj : j ≤ 2045) (h : own_z a = N * ((2 ^ j : Nat) : Int)) : DFin a := by
  have p : (0 : Int) ≤ ((2 ^ j : Nat) : Int) := Int.natCast_nonneg _
  by_cases s : 0 ≤ N
  · have := Int.mul_nonneg s p
    exact own_fin hn hN hj (by omega) (by omega)
  · have q := Int.mul_nonneg (show (0 : Int) ≤ -N by omega) p
    rw [Int.neg_mul] at q
    refine own_fin hn (N := -N) (j := j) (by omega) hj ?_ ?_ <;> rw [Int.neg_mul] <;> omega
theorem own_add {a b : UInt64} (ha : DFin a) (hb : DFin b) {N : Int} {j : Nat} (hN : N.natAbs < 2 ^ 53) (hj : j ≤ 2045)
    (h : own_z a + own_z b = N * ((2 ^ j : Nat) : Int)) : DFin (Jvm.FP.dadd a b) ∧ own_z (Jvm.FP.dadd a b) = N * ((2 ^ j : Nat) : Int) := by
  have q : own_z (Jvm.FP.dadd a b) = N * ((2 ^ j : Nat) : Int) := by
    have h1 := own_add_le ha hb hN hj (Int.le_of_eq h)
    have h2 := own_add_ge ha hb hN hj (Int.le_of_eq h.symm)
    omega
  exact ⟨own_fin_abs (own_add_nn ha hb) hN hj q, q⟩
theorem own_sub_eq {a b : UInt64} (hb : DFin b) : Jvm.FP.dsub a b = Jvm.FP.dadd a (Jvm.FP.dneg b) := by
  rw [Jvm.FP.dneg_core hb.notNaN]; exact dsub_eq a b
theorem own_sum_val {a b : UInt64} (ha : DFin a) (hb : DFin b) (hz : own_z a + own_z b ≠ 0) :
    val64 (Jvm.FP.dadd a b) = roundRatio b64 (decide (own_z a + own_z b < 0)) (own_z a + own_z b).natAbs 1 (-1074) := by
  have fa := val64_fits a
  have fb := val64_fits b
  have za : own_z a = zval b64 (val64 a) := rfl
  have zb : own_z b = zval b64 (val64 b) := rfl
  obtain ⟨s, c, q, ea⟩ := ha
  obtain ⟨t, d, r, eb⟩ := hb
  rw [show val64 (Jvm.FP.dadd a b) = _ from val64_dadd a b, ea, eb]
  rw [ea] at fa za
  rw [eb] at fb zb
  obtain ⟨sg, n, e, h1, h2, h3⟩ := sum_units fa fb
  rw [← za, ← zb] at h3
  rw [h1]
  show roundRatio b64 sg n 1 e = _
  rw [qmin_b64] at h2
  have hn : inUnits n e b64.qmin = (own_z a + own_z b).natAbs := by rw [← h3, natAbs_signed]
  have hs : sg = decide (own_z a + own_z b < 0) := by
    have hp : 0 < inUnits n e b64.qmin := by omega
    rw [← h3]; exact (signed_lt_zero sg hp).symm
  rw [← hs]
  refine roundRatio_congr (by decide) (by decide) ?_
  rw [← hn]
  unfold inUnits
  rw [qmin_b64, show (-1074 - e).toNat = 0 by omega, Nat.pow_zero, Nat.mul_one, Nat.mul_one, Nat.mul_one]
theorem own_sum_same {a b a' b' : UInt64} (ha : DFin a) (hb : DFin b) (ha' : DFin a') (hb' : DFin b') (h : own_z a + own_z b = own_z a' + own_z b') (hz : own_z a + own_z b ≠ 0) : Jvm.FP.dadd a b = Jvm.FP.dadd a' b' := by
  refine val64_inj (own_add_nn ha hb) ?_
  rw [own_sum_val ha hb hz, own_sum_val ha' hb' (by rw [← h]; exact hz), h]
theorem own_sub_same {a b a' : UInt64} (ha : DFin a) (hb : DFin b) (ha' : DFin a') (h : own_z a = own_z a') (hz : own_z a ≠ own_z b) : Jvm.FP.dsub a b = Jvm.FP.dsub a' b := by
  rw [own_sub_eq hb, own_sub_eq hb]
  exact own_sum_same ha (own_fin_neg hb) ha' (own_fin_neg hb) (by rw [h]) (by rw [own_z_neg]; omega)
-- products
theorem own_mul_nn {a b : UInt64} (ha : DFin a) (hb : DFin b) : val64 (Jvm.FP.dmul a b) ≠ .nan := (notNaN_iff _).mp (dmul_out ha hb)
theorem own_mul {a b : UInt64} (ha : DFin a) (hb : DFin b) {N : Int} {j : Nat} (hN : N.natAbs < 2 ^ 53) (hj : j ≤ 2045)
    (h : own_z a * own_z b = N * ((2 ^ j : Nat) : Int) * ((2 ^ 1074 : Nat) : Int)) : DFin (Jvm.FP.dmul a b) ∧ own_z (Jvm.FP.dmul a b) = N * ((2 ^ j : Nat) : Int) := by
  have q : own_z (Jvm.FP.dmul a b) = N * ((2 ^ j : Nat) : Int) := by
    obtain ⟨V, f1, f2, -, f4⟩ := own_rep hN hj
    have fa := val64_fits a
    have fb := val64_fits b
    obtain ⟨s, c, q, ea⟩ := ha
    obtain ⟨t, d, r, eb⟩ := hb
    unfold own_z at h ⊢
    rw [ea] at fa
    rw [eb] at fb
    rw [val64_dmul, ea, eb]
    rw [ea, eb] at h
    obtain ⟨u1, u2, u3⟩ := product_units fa fb
    rw [u1]
    have e : signed (s != t) (inUnits (c * d) (q + r) (2 * b64.qmin)) = zval b64 (.fin s c q) * zval b64 (.fin t d r) := by
      rw [u3]; exact signed_xor s t _ _
    have k : (b64.qmin - 2 * b64.qmin).toNat = 1074 := by rw [qmin_b64]; decide
    have w1 := zval_round_le good_b64 f1 f2 (e0 := 2 * b64.qmin) (by rw [qmin_b64]; decide) u2 (by rw [e, h, f4, k]; exact Int.le_refl _)
    have w2 := zval_round_ge good_b64 f1 f2 (e0 := 2 * b64.qmin) (by rw [qmin_b64]; decide) u2 (by rw [e, h, f4, k]; exact Int.le_refl _)
    rw [f4] at w1 w2
    exact Int.le_antisymm w1 w2
  exact ⟨own_fin_abs (own_mul_nn ha hb) hN hj q, q⟩
-- quotients by a positive number
theorem own_div_val {a b : UInt64} (ha : DFin a) (hb : DFin b) (hz : own_z b ≠ 0) :
    val64 (Jvm.FP.ddiv a b) = roundRatio b64 (sgn (val64 a) != sgn (val64 b)) (own_z a).natAbs (own_z b).natAbs 0 := by
  have fa := val64_fits a
  have fb := val64_fits b
  have ea' : (own_z a).natAbs = zmag b64 (val64 a) := own_zabs _
  have eb' : (own_z b).natAbs = zmag b64 (val64 b) := own_zabs _
  have hz' : zmag b64 (val64 b) ≠ 0 := by omega
  rw [ea', eb', show val64 (Jvm.FP.ddiv a b) = _ from val64_ddiv a b]
  obtain ⟨s, c, q, ea⟩ := ha
  obtain ⟨t, d, r, eb⟩ := hb
  rw [ea] at fa ⊢
  rw [eb] at fb hz' ⊢
  have q1 := fa.2.1
  have r1 := fb.2.1
  have hz2 : inUnits d r b64.qmin ≠ 0 := hz'
  unfold inUnits at hz2
  have hd : d ≠ 0 := fun z => hz2 (by rw [z, Nat.zero_mul])
  show (if d = 0 then _ else roundRatio b64 (s != t) c d (q - r)) = roundRatio b64 (s != t) (inUnits c q b64.qmin) (inUnits d r b64.qmin) 0
  rw [if_neg hd]
  refine roundRatio_congr (Nat.pos_of_ne_zero hd) (Nat.pos_of_ne_zero hz') ?_
  unfold inUnits
  rw [qmin_b64] at *
  have e1 : (q - r - 0).toNat + (r - -1074).toNat = (q - -1074).toNat + (0 - (q - r)).toNat := by omega
  calc c * (d * 2 ^ (r - -1074).toNat) * 2 ^ (q - r - 0).toNat = c * d * 2 ^ ((q - r - 0).toNat + (r - -1074).toNat) := by rw [Nat.pow_add]; ac_rfl
    _ = c * d * 2 ^ ((q - -1074).toNat + (0 - (q - r)).toNat) := by rw [e1]
    _ = c * 2 ^ (q - -1074).toNat * d * 2 ^ (0 - (q - r)).toNat := by rw [Nat.pow_add]; ac_rfl
theorem own_sgn_pos {a : UInt64} (h : 0 < own_z a) : sgn (val64 a) = false := by
  cases e : sgn (val64 a) with
  | false => rfl
  | true =>
    have : own_z a = -((zmag b64 (val64 a) : Nat) : Int) := by unfold own_z zval; rw [e]; rfl
    omega
theorem own_sgn_neg {a : UInt64} (h : own_z a < 0) : sgn (val64 a) = true := by
  cases e : sgn (val64 a) with
  | true => rfl
  | false =>
    have : own_z a = ((zmag b64 (val64 a) : Nat) : Int) := by unfold own_z zval; rw [e]; rfl
    omega
theorem own_div_z {a b : UInt64} (ha : DFin a) (hb : DFin b) (hz : 0 < own_z b) :
    own_z (Jvm.FP.ddiv a b) = signed (sgn (val64 a)) (zmag b64 (roundRatio b64 (sgn (val64 a)) (own_z a).natAbs (own_z b).natAbs 0)) := by
  unfold own_z zval
  have q := own_div_val ha hb (by omega)
  rw [own_sgn_pos hz, Bool.bne_false] at q
  unfold own_z at q
  rw [q, sgn_roundRatio]
  rfl
theorem own_div_nn {a b : UInt64} (ha : DFin a) (hb : DFin b) (hz : own_z b ≠ 0) : val64 (Jvm.FP.ddiv a b) ≠ .nan := by
  rw [own_div_val ha hb hz]; exact roundRatio_ne_nan _ _ _ _ _
theorem own_rr_le {s : Bool} {A B : Nat} (hB : 0 < B) {N : Int} {j : Nat} (hN : N.natAbs < 2 ^ 53) (hj : j ≤ 2045) (h : A * 2 ^ 1074 ≤ N.natAbs * 2 ^ j * B) :
    zmag b64 (roundRatio b64 s A B 0) ≤ N.natAbs * 2 ^ j := by
  obtain ⟨V, f1, f2, -, f4⟩ := own_rep hN hj
  have e : zmag b64 V = N.natAbs * 2 ^ j := by rw [← own_zabs, f4, Int.natAbs_mul, Int.natAbs_natCast]
  have q := zmag_roundRatio_le good_b64 (s := s) (A := A) (B := B) (e := 0) (e0 := b64.qmin) hB f1 f2 (Int.le_refl _) (by rw [qmin_b64]; decide)
    (by unfold inUnits; rw [e, Int.sub_self, qmin_b64, show ((0 : Int) - -1074).toNat = 1074 from rfl, show (0 : Int).toNat = 0 from rfl, Nat.pow_zero, Nat.mul_one]; exact h)
  rw [e] at q; exact q
theorem own_rr_ge {s : Bool} {A B : Nat} (hB : 0 < B) {N : Int} {j : Nat} (hN : N.natAbs < 2 ^ 53) (hj : j ≤ 2045) (h : N.natAbs * 2 ^ j * B ≤ A * 2 ^ 1074) :
    N.natAbs * 2 ^ j ≤ zmag b64 (roundRatio b64 s A B 0) := by
  obtain ⟨V, f1, f2, -, f4⟩ := own_rep hN hj
  have e : zmag b64 V = N.natAbs * 2 ^ j := by rw [← own_zabs, f4, Int.natAbs_mul, Int.natAbs_natCast]
  have q := zmag_roundRatio_ge good_b64 (s := s) (A := A) (B := B) (e := 0) (e0 := b64.qmin) hB f1 (Int.le_refl _) (by rw [qmin_b64]; decide)
    (by unfold inUnits; rw [e, Int.sub_self, qmin_b64, show ((0 : Int) - -1074).toNat = 1074 from rfl, show (0 : Int).toNat = 0 from rfl, Nat.pow_zero, Nat.mul_one]; exact h)
  rw [e] at q; exact q
theorem own_cast_le {A B N : Nat} {j k : Nat} (h : (A : Int) * ((2 ^ k : Nat) : Int) ≤ (N : Int) * ((2 ^ j : Nat) : Int) * (B : Int)) : A * 2 ^ k ≤ N * 2 ^ j * B := by
  rw [← Int.natCast_mul, ← Int.natCast_mul, ← Int.natCast_mul] at h
  exact Int.ofNat_le.mp h
theorem own_cast_ge {A B N : Nat} {j k : Nat} (h : (N : Int) * ((2 ^ j : Nat) : Int) * (B : Int) ≤ (A : Int) * ((2 ^ k : Nat) : Int)) : N * 2 ^ j * B ≤ A * 2 ^ k := by
  rw [← Int.natCast_mul, ← Int.natCast_mul, ← Int.natCast_mul] at h
  exact Int.ofNat_le.mp h
theorem own_div_le {a b : UInt64} (ha : DFin a) (hb : DFin b) (hz : 0 < own_z b) {N : Int} {j : Nat} (hN : N.natAbs < 2 ^ 53) (hj : j ≤ 2045)
    (h : own_z a * ((2 ^ 1074 : Nat) : Int) ≤ N * ((2 ^ j : Nat) : Int) * own_z b) : own_z (Jvm.FP.ddiv a b) ≤ N * ((2 ^ j : Nat) : Int) := by
  rw [own_div_z ha hb hz]
  have p : (0 : Int) < ((2 ^ j : Nat) : Int) := by exact_mod_cast Nat.two_pow_pos j
  have p2 : (0 : Int) < ((2 ^ 1074 : Nat) : Int) := by exact_mod_cast Nat.two_pow_pos 1074
  have hB : 0 < (own_z b).natAbs := by omega
  have eb : ((own_z b).natAbs : Int) = own_z b := by omega
  by_cases s : 0 ≤ N
  · have q := Int.mul_nonneg s (Int.le_of_lt p)
    have eN : (N.natAbs : Int) = N := by omega
    cases e : sgn (val64 a) with
    | true =>
      show -((_ : Nat) : Int) ≤ _
      omega
    | false =>
      have ez : own_z a = ((own_z a).natAbs : Int) := by
        have : own_z a = ((zmag b64 (val64 a) : Nat) : Int) := by unfold own_z zval; rw [e]; rfl
        omega
      have r := own_rr_le (s := false) (A := (own_z a).natAbs) hB hN hj (own_cast_le (by rw [eb, eN, ← ez]; exact h))
      show ((_ : Nat) : Int) ≤ _
      have r2 := Int.ofNat_le.mpr r
      rw [Int.natCast_mul, eN] at r2
      exact r2
  · have nb : own_z a < 0 := by
      refine Int.lt_of_not_ge fun g => ?_
      have g1 := Int.mul_nonneg g (Int.le_of_lt p2)
      have g2 := Int.mul_pos (Int.mul_pos (show (0 : Int) < -N by omega) p) hz
      rw [Int.neg_mul, Int.neg_mul] at g2
      omega
    rw [own_sgn_neg nb]
    show -((_ : Nat) : Int) ≤ _
    have eN : (N.natAbs : Int) = -N := by omega
    have ez : ((own_z a).natAbs : Int) = -own_z a := by omega
    have r := own_rr_ge (s := true) (A := (own_z a).natAbs) hB hN hj (own_cast_ge (by rw [eb, eN, ez, Int.neg_mul, Int.neg_mul, Int.neg_mul]; omega))
    have r2 := Int.ofNat_le.mpr r
    rw [Int.natCast_mul, eN, Int.neg_mul] at r2
    omega
theorem own_div_ge {a b : UInt64} (ha : DFin a) (hb : DFin b) (hz : 0 < own_z b) {N : Int} {j : Nat} (hN : N.natAbs < 2 ^ 53) (hj : j ≤ 2045)
    (h : N * ((2 ^ j : Nat) : Int) * own_z b ≤ own_z a * ((2 ^ 1074 : Nat) : Int)) : N * ((2 ^ j : Nat) : Int) ≤ own_z (Jvm.FP.ddiv a b) := by
  have q := own_div_le (own_fin_neg ha) hb hz (N := -N) (j := j) (by omega) hj (by rw [own_z_neg, Int.neg_mul, Int.neg_mul, Int.neg_mul]; omega)
  have e : own_z (Jvm.FP.ddiv (Jvm.FP.dneg a) b) = -own_z (Jvm.FP.ddiv a b) := by
    unfold own_z
    rw [show val64 (Jvm.FP.ddiv (Jvm.FP.dneg a) b) = _ from val64_ddiv _ b, Jvm.FP.val64_dneg, quotient_negate, zval_negate, show val64 (Jvm.FP.ddiv a b) = _ from val64_ddiv a b]
  rw [e, Int.neg_mul] at q
  omega
theorem own_div {a b : UInt64} (ha : DFin a) (hb : DFin b) (hz : 0 < own_z b) {N : Int} {j : Nat} (hN : N.natAbs < 2 ^ 53) (hj : j ≤ 2045)
    (h : own_z a * ((2 ^ 1074 : Nat) : Int) = N * ((2 ^ j : Nat) : Int) * own_z b) : DFin (Jvm.FP.ddiv a b) ∧ own_z (Jvm.FP.ddiv a b) = N * ((2 ^ j : Nat) : Int) := by
  have q : own_z (Jvm.FP.ddiv a b) = N * ((2 ^ j : Nat) : Int) :=
    Int.le_antisymm (own_div_le ha hb hz hN hj (Int.le_of_eq h)) (own_div_ge ha hb hz hN hj (Int.le_of_eq h.symm))
  exact ⟨own_fin_abs (own_div_nn ha hb (by omega)) hN hj q, q⟩
theorem own_div_same {a b a' b' : UInt64} (ha : DFin a) (hb : DFin b) (ha' : DFin a') (hb' : DFin b') (pa : 0 < own_z a) (pb : 0 < own_z b) (pa' : 0 < own_z a') (pb' : 0 < own_z b')
    (h : own_z a * own_z b' = own_z a' * own_z b) : Jvm.FP.ddiv a b = Jvm.FP.ddiv a' b' := by
  refine val64_inj (own_div_nn ha hb (by omega)) ?_
  rw [own_div_val ha hb (by omega), own_div_val ha' hb' (by omega), own_sgn_pos pa, own_sgn_pos pb, own_sgn_pos pa', own_sgn_pos pb']
  refine roundRatio_congr (by omega) (by omega) ?_
  rw [show ((0 : Int) - 0).toNat = 0 from rfl, Nat.pow_zero, Nat.mul_one, Nat.mul_one, ← Int.natAbs_mul, ← Int.natAbs_mul, h]
-- comparison
theorem own_cmp {a b : UInt64} (ha : val64 a ≠ .nan) (hb : val64 b ≠ .nan) : Jvm.FP.dcmp a b = some (compare (own_z a) (own_z b)) := dcmp_zval ha hb
theorem own_cmp_int {a b : UInt64} (ha : val64 a ≠ .nan) (hb : val64 b ≠ .nan) (o : Jvm.ClassFile.CmpOp) :
    Jvm.Op.cmpValue (Jvm.FP.dcmp a b) o = if own_z a < own_z b then -1 else if own_z a = own_z b then 0 else 1 := by
  rw [own_cmp ha hb, compare_ite]
  by_cases h : own_z a < own_z b
  · rw [if_pos h, if_pos h]; cases o <;> rfl
  · rw [if_neg h, if_neg h]
    by_cases h2 : own_z a = own_z b
    · rw [if_pos h2, if_pos h2]; cases o <;> rfl
    · rw [if_neg h2, if_neg h2]; cases o <;> rfl
-- whole numbers
theorem own_z_l2d {i : Int64} (h : i.toInt.natAbs ≤ 2 ^ 53) : own_z (Jvm.FP.l2d i) = i.toInt * ((2 ^ 1074 : Nat) : Int) := DInt_zval (l2d_int h)
theorem own_z_i2d (i : Int32) : own_z (Jvm.FP.i2d i) = i.toInt * ((2 ^ 1074 : Nat) : Int) := DInt_zval (i2d_int i)
theorem own_fin_l2d (i : Int64) : DFin (Jvm.FP.l2d i) := l2d_fin i
theorem own_fin_i2d (i : Int32) : DFin (Jvm.FP.i2d i) := i2d_fin i
-- n / 2^k
def Dy (n : Int) (k : Nat) (a : UInt64) : Prop := DFin a ∧ own_z a = n * ((2 ^ (1074 - k) : Nat) : Int)
theorem Dy.fin {n : Int} {k : Nat} {a : UInt64} (h : Dy n k a) : DFin a := h.1
theorem Dy.nn {n : Int} {k : Nat} {a : UInt64} (h : Dy n k a) : Jvm.Free.Fl.NoNaN64 a := own_nn h.1
theorem Dy.i2d (i : Int32) : Dy i.toInt 0 (Jvm.FP.i2d i) := ⟨own_fin_i2d i, own_z_i2d i⟩
theorem Dy.l2d {i : Int64} (h : i.toInt.natAbs ≤ 2 ^ 53) : Dy i.toInt 0 (Jvm.FP.l2d i) := ⟨own_fin_l2d i, own_z_l2d h⟩
theorem Dy.add {n m : Int} {k : Nat} {a b : UInt64} (ha : Dy n k a) (hb : Dy m k b) (h : (n + m).natAbs < 2 ^ 53) : Dy (n + m) k (Jvm.FP.dadd a b) :=
  own_add ha.1 hb.1 h (by omega) (by rw [ha.2, hb.2, Int.add_mul])
theorem Dy.neg {n : Int} {k : Nat} {a : UInt64} (ha : Dy n k a) : Dy (-n) k (Jvm.FP.dneg a) := ⟨own_fin_neg ha.1, by rw [own_z_neg, ha.2, Int.neg_mul]⟩
theorem Dy.sub {n m : Int} {k : Nat} {a b : UInt64} (ha : Dy n k a) (hb : Dy m k b) (h : (n - m).natAbs < 2 ^ 53) : Dy (n - m) k (Jvm.FP.dsub a b) := by
  rw [own_sub_eq hb.1]; exact Dy.add ha hb.neg (by rw [← Int.sub_eq_add_neg]; exact h)
theorem own_pow {k : Nat} (h : k ≤ 1074) : ((2 ^ (1074 - k) : Nat) : Int) * ((2 ^ k : Nat) : Int) = ((2 ^ 1074 : Nat) : Int) := by
  rw [← Int.natCast_mul, ← Nat.pow_add, Nat.sub_add_cancel h]
theorem own_pow_pos (k : Nat) : (0 : Int) < ((2 ^ k : Nat) : Int) := by exact_mod_cast Nat.two_pow_pos k
theorem Dy.conv {n m : Int} {k l : Nat} {a : UInt64} (ha : Dy n k a) (hk : k ≤ 1074) (hl : l ≤ 1074) (h : n * ((2 ^ l : Nat) : Int) = m * ((2 ^ k : Nat) : Int)) : Dy m l a := by
  refine ⟨ha.1, ?_⟩
  have e1 := own_pow hk
  have e2 := own_pow hl
  have p1 := own_pow_pos k
  have p2 := own_pow_pos l
  rw [ha.2]
  generalize ((2 ^ (1074 - k) : Nat) : Int) = A at *
  generalize ((2 ^ (1074 - l) : Nat) : Int) = B at *
  generalize ((2 ^ k : Nat) : Int) = K at *
  generalize ((2 ^ l : Nat) : Int) = L at *
  refine Int.eq_of_mul_eq_mul_right (Int.ne_of_gt (Int.mul_pos p1 p2)) ?_
  calc n * A * (K * L) = n * L * (A * K) := by ac_rfl
    _ = m * K * (B * L) := by rw [h, e1, e2]
    _ = m * B * (K * L) := by ac_rfl
theorem Dy.mul {n m : Int} {k l : Nat} {a b : UInt64} (ha : Dy n k a) (hb : Dy m l b) (hk : k + l ≤ 1074) (h : (n * m).natAbs < 2 ^ 53) : Dy (n * m) (k + l) (Jvm.FP.dmul a b) := by
  refine own_mul ha.1 hb.1 h (by omega) ?_
  rw [ha.2, hb.2]
  have e1 : ((2 ^ (1074 - k) : Nat) : Int) * ((2 ^ (1074 - l) : Nat) : Int) = ((2 ^ (1074 - (k + l)) : Nat) : Int) * ((2 ^ 1074 : Nat) : Int) := by
    rw [← Int.natCast_mul, ← Int.natCast_mul, ← Nat.pow_add, ← Nat.pow_add]
    congr 2; omega
  generalize ((2 ^ (1074 - k) : Nat) : Int) = A at *
  generalize ((2 ^ (1074 - l) : Nat) : Int) = B at *
  generalize ((2 ^ (1074 - (k + l)) : Nat) : Int) = C at *
  generalize ((2 ^ 1074 : Nat) : Int) = O at *
  calc n * A * (m * B) = n * m * (A * B) := by ac_rfl
    _ = n * m * C * O := by rw [e1]; ac_rfl
theorem Dy.mulx {n m N : Int} {k l r : Nat} {a b : UInt64} (ha : Dy n k a) (hb : Dy m l b) (hk : k ≤ 1074) (hl : l ≤ 1074) (hr : r ≤ 1074)
    (h : n * m * ((2 ^ r : Nat) : Int) = N * ((2 ^ k : Nat) : Int) * ((2 ^ l : Nat) : Int)) (hN : N.natAbs < 2 ^ 53) : Dy N r (Jvm.FP.dmul a b) := by
  refine own_mul ha.1 hb.1 hN (by omega) ?_
  rw [ha.2, hb.2]
  have e1 := own_pow hk
  have e2 := own_pow hl
  have e3 := own_pow hr
  have p1 := own_pow_pos k
  have p2 := own_pow_pos l
  have p3 := own_pow_pos r
  generalize ((2 ^ 1074 : Nat) : Int) = O at *
  generalize ((2 ^ (1074 - k) : Nat) : Int) = A at *
  generalize ((2 ^ (1074 - l) : Nat) : Int) = B at *
  generalize ((2 ^ (1074 - r) : Nat) : Int) = C at *
  generalize ((2 ^ k : Nat) : Int) = K at *
  generalize ((2 ^ l : Nat) : Int) = L at *
  generalize ((2 ^ r : Nat) : Int) = R at *
  refine Int.eq_of_mul_eq_mul_right (Int.ne_of_gt (Int.mul_pos p1 (Int.mul_pos p2 p3))) ?_
  calc n * A * (m * B) * (K * (L * R)) = n * m * R * ((A * K) * (B * L)) := by ac_rfl
    _ = N * K * L * (O * (C * R)) := by rw [h, e1, e2, e3]
    _ = N * C * O * (K * (L * R)) := by ac_rfl
theorem Dy.pos {n : Int} {k : Nat} {a : UInt64} (ha : Dy n k a) (h : 0 < n) : 0 < own_z a := by rw [ha.2]; exact Int.mul_pos h (own_pow_pos _)
theorem Dy.div {n m N : Int} {k l r : Nat} {a b : UInt64} (ha : Dy n k a) (hb : Dy m l b) (hm : 0 < m) (hk : k ≤ 1074) (hl : l ≤ 1074) (hr : r ≤ 1074)
    (h : n * ((2 ^ l : Nat) : Int) * ((2 ^ r : Nat) : Int) = N * m * ((2 ^ k : Nat) : Int)) (hN : N.natAbs < 2 ^ 53) : Dy N r (Jvm.FP.ddiv a b) := by
  refine own_div ha.1 hb.1 (hb.pos hm) hN (by omega) ?_
  rw [ha.2, hb.2]
  have e1 := own_pow hk
  have e2 := own_pow hl
  have e3 := own_pow hr
  have p1 := own_pow_pos k
  have p2 := own_pow_pos l
  have p3 := own_pow_pos r
  generalize ((2 ^ 1074 : Nat) : Int) = O at *
  generalize ((2 ^ (1074 - k) : Nat) : Int) = A at *
  generalize ((2 ^ (1074 - l) : Nat) : Int) = B at *
  generalize ((2 ^ (1074 - r) : Nat) : Int) = C at *
  generalize ((2 ^ k : Nat) : Int) = K at *
  generalize ((2 ^ l : Nat) : Int) = L at *
  generalize ((2 ^ r : Nat) : Int) = R at *
  refine Int.eq_of_mul_eq_mul_right (Int.ne_of_gt (Int.mul_pos p1 (Int.mul_pos p2 p3))) ?_
  calc n * A * O * (K * (L * R)) = n * L * R * (A * K) * O := by ac_rfl
    _ = N * m * K * (C * R) * (B * L) := by rw [h, e1, e2, e3]
    _ = N * C * (m * B) * (K * (L * R)) := by ac_rfl
theorem Dy.same {n m n' m' : Int} {k l k' l' : Nat} {a b a' b' : UInt64} (ha : Dy n k a) (hb : Dy m l b) (ha' : Dy n' k' a') (hb' : Dy m' l' b') (pn : 0 < n) (pm : 0 < m) (pn' : 0 < n') (pm' : 0 < m')
    (hk : k ≤ 1074) (hl : l ≤ 1074) (hk' : k' ≤ 1074) (hl' : l' ≤ 1074)
    (h : n * m' * ((2 ^ l : Nat) : Int) * ((2 ^ k' : Nat) : Int) = n' * m * ((2 ^ l' : Nat) : Int) * ((2 ^ k : Nat) : Int)) : Jvm.FP.ddiv a b = Jvm.FP.ddiv a' b' := by
  refine own_div_same ha.1 hb.1 ha'.1 hb'.1 (ha.pos pn) (hb.pos pm) (ha'.pos pn') (hb'.pos pm') ?_
  rw [ha.2, hb.2, ha'.2, hb'.2]
  have e1 := own_pow hk
  have e2 := own_pow hl
  have e3 := own_pow hk'
  have e4 := own_pow hl'
  have p1 := own_pow_pos k
  have p2 := own_pow_pos l
  have p3 := own_pow_pos k'
  have p4 := own_pow_pos l'
  generalize ((2 ^ 1074 : Nat) : Int) = O at *
  generalize ((2 ^ (1074 - k) : Nat) : Int) = A at *
  generalize ((2 ^ (1074 - l) : Nat) : Int) = B at *
  generalize ((2 ^ (1074 - k') : Nat) : Int) = A' at *
  generalize ((2 ^ (1074 - l') : Nat) : Int) = B' at *
  generalize ((2 ^ k : Nat) : Int) = K at *
  generalize ((2 ^ l : Nat) : Int) = L at *
  generalize ((2 ^ k' : Nat) : Int) = K' at *
  generalize ((2 ^ l' : Nat) : Int) = L' at *
  refine Int.eq_of_mul_eq_mul_right (Int.ne_of_gt (Int.mul_pos (Int.mul_pos p1 p2) (Int.mul_pos p3 p4))) ?_
  calc n * A * (m' * B') * (K * L * (K' * L')) = n * m' * L * K' * ((A * K) * (B' * L')) := by ac_rfl
    _ = n' * m * L' * K * ((A' * K') * (B * L)) := by rw [h, e1, e2, e3, e4]
    _ = n' * A' * (m * B) * (K * L * (K' * L')) := by ac_rfl
theorem Dy.cmp {n m : Int} {k : Nat} {a b : UInt64} (ha : Dy n k a) (hb : Dy m k b) (o : Jvm.ClassFile.CmpOp) :
    Jvm.Op.cmpValue (Jvm.FP.dcmp a b) o = if n < m then -1 else if n = m then 0 else 1 := by
  rw [own_cmp_int ha.1.ne_nan hb.1.ne_nan, ha.2, hb.2]
  have p := own_pow_pos (1074 - k)
  generalize ((2 ^ (1074 - k) : Nat) : Int) = A at *
  have e1 : (n * A < m * A) ↔ n < m := ⟨fun q => Int.lt_of_mul_lt_mul_right q (Int.le_of_lt p), fun q => Int.mul_lt_mul_of_pos_right q p⟩
  have e2 : (n * A = m * A) ↔ n = m := ⟨fun q => Int.eq_of_mul_eq_mul_right (Int.ne_of_gt p) q, fun q => by rw [q]⟩
  simp only [e1, e2]
theorem Dy.div_le {n m N : Int} {k r : Nat} {a b : UInt64} (ha : Dy n k a) (hb : Dy m k b) (hm : 0 < m) (hr : r ≤ 1074) (hN : N.natAbs < 2 ^ 53)
    (h : n * ((2 ^ r : Nat) : Int) ≤ N * m) : own_z (Jvm.FP.ddiv a b) ≤ N * ((2 ^ (1074 - r) : Nat) : Int) := by
  refine own_div_le ha.1 hb.1 (hb.pos hm) hN (by omega) ?_
  rw [ha.2, hb.2, ← own_pow hr]
  have p1 := own_pow_pos (1074 - k)
  have p2 := own_pow_pos (1074 - r)
  generalize ((2 ^ (1074 - k) : Nat) : Int) = A at *
  generalize ((2 ^ (1074 - r) : Nat) : Int) = C at *
  generalize ((2 ^ r : Nat) : Int) = R at *
  have q := Int.mul_le_mul_of_nonneg_right h (Int.le_of_lt (Int.mul_pos p1 p2))
  calc n * A * (C * R) = n * R * (A * C) := by ac_rfl
    _ ≤ N * m * (A * C) := q
    _ = N * C * (m * A) := by ac_rfl
theorem Dy.div_ge {n m N : Int} {k r : Nat} {a b : UInt64} (ha : Dy n k a) (hb : Dy m k b) (hm : 0 < m) (hr : r ≤ 1074) (hN : N.natAbs < 2 ^ 53)
    (h : N * m ≤ n * ((2 ^ r : Nat) : Int)) : N * ((2 ^ (1074 - r) : Nat) : Int) ≤ own_z (Jvm.FP.ddiv a b) := by
  refine own_div_ge ha.1 hb.1 (hb.pos hm) hN (by omega) ?_
  rw [ha.2, hb.2, ← own_pow hr]
  have p1 := own_pow_pos (1074 - k)
  have p2 := own_pow_pos (1074 - r)
  generalize ((2 ^ (1074 - k) : Nat) : Int) = A at *
  generalize ((2 ^ (1074 - r) : Nat) : Int) = C at *
  generalize ((2 ^ r : Nat) : Int) = R at *
  have q := Int.mul_le_mul_of_nonneg_right h (Int.le_of_lt (Int.mul_pos p1 p2))
  calc N * C * (m * A) = N * m * (A * C) := by ac_rfl
    _ ≤ n * R * (A * C) := q
    _ = n * A * (C * R) := by ac_rfl
theorem Dy.div_nn {n m : Int} {k l : Nat} {a b : UInt64} (ha : Dy n k a) (hb : Dy m l b) (hm : 0 < m) : val64 (Jvm.FP.ddiv a b) ≠ .nan :=
  own_div_nn ha.1 hb.1 (Int.ne_of_gt (hb.pos hm))
theorem own_fin64 {a : UInt64} (h : DFin a) : Jvm.Free.Fl.Fin64 a := Jvm.Free.Fl.fin64_core.mpr h
theorem own_nz64 {a : UInt64} (h : DFin a) (hz : own_z a ≠ 0) : Jvm.Free.Fl.Nz64 a := Jvm.Free.Fl.nz64_core.mpr (dnot_zero h.ne_nan hz)
theorem own_nn' {a : UInt64} (h : val64 a ≠ .nan) : Jvm.Free.Fl.NoNaN64 a := Jvm.Free.Fl.noNaN64_no.mpr ((notNaN_iff a).mpr h)
theorem own_c_lt (P Q : Prop) [Decidable P] [Decidable Q] : (if P then (-1 : Int32) else if Q then 0 else 1) < (0 : Int32) ↔ P := by
  by_cases h : P
  · rw [if_pos h]; exact ⟨fun _ => h, fun _ => by decide⟩
  · rw [if_neg h]
    by_cases h2 : Q
    · rw [if_pos h2]; exact ⟨fun q => absurd q (by decide), fun q => absurd q h⟩
    · rw [if_neg h2]; exact ⟨fun q => absurd q (by decide), fun q => absurd q h⟩
theorem own_c_gt (P Q : Prop) [Decidable P] [Decidable Q] : (0 : Int32) < (if P then (-1 : Int32) else if Q then 0 else 1) ↔ ¬ P ∧ ¬ Q := by
  by_cases h : P
  · rw [if_pos h]; exact ⟨fun q => absurd q (by decide), fun q => absurd h q.1⟩
  · rw [if_neg h]
    by_cases h2 : Q
    · rw [if_pos h2]; exact ⟨fun q => absurd q (by decide), fun q => absurd h2 q.2⟩
    · rw [if_neg h2]; exact ⟨fun _ => ⟨h, h2⟩, fun _ => by decide⟩
theorem own_c_eq (P Q : Prop) [Decidable P] [Decidable Q] : (if P then (-1 : Int32) else if Q then 0 else 1) = (0 : Int32) ↔ ¬ P ∧ Q := by
  by_cases h : P
  · rw [if_pos h]; exact ⟨fun q => absurd q (by decide), fun q => absurd h q.1⟩
  · rw [if_neg h]
    by_cases h2 : Q
    · rw [if_pos h2]; exact ⟨fun _ => ⟨h, h2⟩, fun _ => rfl⟩
    · rw [if_neg h2]; exact ⟨fun q => absurd q (by decide), fun q => absurd q.2 h2⟩
theorem own_lt0 {a b : UInt64} (ha : val64 a ≠ .nan) (hb : val64 b ≠ .nan) (o : Jvm.ClassFile.CmpOp) : Jvm.Op.cmpValue (Jvm.FP.dcmp a b) o < (0 : Int32) ↔ own_z a < own_z b := by
  rw [own_cmp_int ha hb]; exact own_c_lt _ _
theorem own_gt0 {a b : UInt64} (ha : val64 a ≠ .nan) (hb : val64 b ≠ .nan) (o : Jvm.ClassFile.CmpOp) : (0 : Int32) < Jvm.Op.cmpValue (Jvm.FP.dcmp a b) o ↔ own_z b < own_z a := by
  rw [own_cmp_int ha hb, own_c_gt]; omega
theorem own_eq0 {a b : UInt64} (ha : val64 a ≠ .nan) (hb : val64 b ≠ .nan) (o : Jvm.ClassFile.CmpOp) : Jvm.Op.cmpValue (Jvm.FP.dcmp a b) o = (0 : Int32) ↔ own_z a = own_z b := by
  rw [own_cmp_int ha hb, own_c_eq]; omega
theorem Dy.lt0 {n m : Int} {k : Nat} {a b : UInt64} (ha : Dy n k a) (hb : Dy m k b) (o : Jvm.ClassFile.CmpOp) : Jvm.Op.cmpValue (Jvm.FP.dcmp a b) o < (0 : Int32) ↔ n < m := by
  rw [ha.cmp hb]; exact own_c_lt _ _
theorem Dy.gt0 {n m : Int} {k : Nat} {a b : UInt64} (ha : Dy n k a) (hb : Dy m k b) (o : Jvm.ClassFile.CmpOp) : (0 : Int32) < Jvm.Op.cmpValue (Jvm.FP.dcmp a b) o ↔ m < n := by
  rw [ha.cmp hb, own_c_gt]; omega
theorem Dy.eq0 {n m : Int} {k : Nat} {a b : UInt64} (ha : Dy n k a) (hb : Dy m k b) (o : Jvm.ClassFile.CmpOp) : Jvm.Op.cmpValue (Jvm.FP.dcmp a b) o = (0 : Int32) ↔ n = m := by
  rw [ha.cmp hb, own_c_eq]; omega
theorem Dy.zero (k : Nat) : Dy 0 k Jvm.FP.dconst0 := ⟨⟨false, 0, b64.qmin, val64_dconst0⟩, by rw [Int.zero_mul]; exact zval64_zero⟩
theorem Dy.one : Dy 1 0 Jvm.FP.dconst1 := ⟨⟨false, 2 ^ 52, -52, val64_dconst1⟩, by rw [Int.one_mul]; exact (DInt_zval dint_one).trans (Int.one_mul _)⟩
theorem Dy.d2l {n : Int} {a : UInt64} (ha : Dy n 0 a) (h0 : 0 ≤ n) (h1 : n < 2 ^ 63) : (Jvm.FP.d2l a).toInt = n := by
  rw [show (Jvm.FP.d2l a).toInt = _ from d2l_val ha.1.ne_nan]
  have e : (own_z a).natAbs = zmag b64 (val64 a) := own_zabs _
  have e2 : own_z a = n * ((2 ^ 1074 : Nat) : Int) := ha.2
  have e3 : zmag b64 (val64 a) = n.natAbs * one64 := by rw [← e, e2, Int.natAbs_mul, Int.natAbs_natCast]; rfl
  rw [e3, Nat.mul_div_cancel _ one64_pos]
  by_cases hz : n = 0
  · subst hz
    rw [show (0 : Int).natAbs = 0 from rfl, signed_zero]; decide
  · rw [own_sgn_pos (ha.pos (by omega)), show signed false n.natAbs = (n.natAbs : Int) from rfl]
    omega
theorem Dy.up {n m : Int} {k l : Nat} {a : UInt64} (ha : Dy n k a) (j : Nat) (hl : l = k + j) (h : l ≤ 1074) (hm : m = n * ((2 ^ j : Nat) : Int)) : Dy m l a := by
  refine ha.conv (by omega) h ?_
  subst hl hm
  rw [Nat.pow_add, Int.natCast_mul]
  ac_rfl
end OwnFl
open Jvm Jvm.ClassFile Sem Op Lib Jvm.Free Jvm.Stand Jvm.LawKit Jvm.RoadKit Bundle Jvm.Pilot.@@N@@.Jvm.D
def QP (rv : Option Value) (h0 : Heap) (n0 : Nat) (v : Option Value) (h : Heap) (L : List Loc) : Prop := v = rv ∧ Fr n0 L ∧ h = h0
def QL (n0 : Nat) (v : Option Value) (h : Heap) (L : List Loc) : Prop := v = some (.int (1 : Int32)) ∧ Fr n0 L
def F2 (u1 : UInt64) : Int32 := if (0 : Int32) < cmpValue (FP.dcmp u1 FP.dconst0) .l then (if cmpValue (FP.dcmp u1 FP.dconst1) .g < (0 : Int32) then 1 else 0) else 0
def F1 (q1 : Int64) (u2 : UInt64) : Int32 := if lcmpW q1 (1 : Int64) < (0 : Int32) then 0 else if F2 u2 = 0 then 0 else 1
theorem d2_0 : decode prog_32_method_4_code 0 = .ok (.dload_n 0, 1) := by decide +kernel
theorem d2_1 : decode prog_32_method_4_code 1 = .ok (.dconst 0, 1) := by decide +kernel
theorem d2_2 : decode prog_32_method_4_code 2 = .ok (.dcmp .l, 1) := by decide +kernel
theorem d2_3 : decode prog_32_method_4_code 3 = .ok (.ifCond .le 13, 3) := by decide +kernel
theorem d2_16 : decode prog_32_method_4_code 16 = .ok (.iconst 0, 1) := by decide +kernel
theorem d2_17 : decode prog_32_method_4_code 17 = .ok (.ireturn, 1) := by decide +kernel
theorem pn_2 : plainName "com/example/echo_bridge/echobridge/membership/FilterTarget" = true := by first | (simp [plainName, overriddenIn]; done) | decide +kernel
theorem ef_2 (m : MethodId) (x0 : UInt64) : entryFrame m #[(.double x0)] 2 = mkF m 0 #[.val (.double x0), .second] [] := by first | (simp [entryFrame, mkF, argsToLocals, Value.category]; done) | rfl
set_option maxRecDepth 65536 in
set_option maxHeartbeats 40000000 in
theorem rm2_t (l : Launch) (Z : State) (a0 : Array Value) (hw : ∀ d ∈ tables_1, d.before a0 Z = true) (ws : List Jvm.Cond) (u1 : UInt64) (h0 : Heap) (n0 : Nat) (Z0 : n0 ≤ h0.size) (hc3 : ¬ ((0 : Int32) < (cmpValue (FP.dcmp u1 FP.dconst0) .l))) :
    MetFree l (⟨"com/example/echo_bridge/echobridge/membership/FilterTarget", "isRate", "(D)Z"⟩ : MethodName) (head1 (Jvm.Cond.code (⟨"com/example/echo_bridge/echobridge/membership/FilterTarget", "isRate", "(D)Z"⟩ : MethodName) prog_32_method_4_code 2 (some .boolean) :: ws) ({ frames := 0, cells := 0, slots := 0, locals := 0 } : Room)) (fun a U => a = #[(.double u1)] ∧ Z.Warmed39 U.vm ∧ U.heap = h0) (fun _ _ _ _ _ => True) (fun _ U o U' => ∃ v L, o = .returned v ∧ QP (some (.int (0 : Int32))) h0 n0 v U'.heap L ∧ FrameEnd U o U' L ({ frames := 0, cells := 0, slots := 0, locals := 0 } : Room).cells ({ frames := 0, cells := 0, slots := 0, locals := 0 } : Room).slots) := by
  refine MetFree.of_bodySF (plainFor_of_name pn_2) hisR ?_
  intro p e s m args below meth c s₁ Bd hml0 hP hK
  obtain ⟨rfl, hZ, hh⟩ := hP
  have hx := Bd.exec
  have hby := Bd.bytes
  have hml : c.maxLocals = 2 := hml0
  have hown : s.vm.findClass "com/example/echo_bridge/echobridge/membership/FilterTarget" = some m.cls := findClass_of_methodNamed Bd.named
  have hnm := (name_of_methodNamed Bd.named Bd.method).1
  have X0 : Stand p l e ({ frames := 0, cells := 0, slots := 0, locals := 0 } : Room) s m #[(.double u1)] below meth c s₁ [] 0 0 := Stand.of_body Bd
  have e0 : s₁.heap = h0 := by rw [← hh, Bd.state]; rfl
  have N0 := Fr.nil n0
  have pre0 : ∀ t, Steps p.tables e below (s₁.setTop (mkF m 0 #[.val (.double u1), .second] [])) t → Steps p.tables e below (s₁.setTop (entryFrame m #[(.double u1)] 2)) t := fun t k => castTop (ef_2 m u1) k

  obtain ⟨fs, hr, hrun, hended, hW, hsame⟩ := X0.leave (v := some (.int (0 : Int32))) (fun h => by rw [Bd.returns] at h; cases h)
  refine ⟨_, _, pre0 _ ?_, hrun, hended, _, _, rfl, ?_, ⟨_, rfl⟩, hW, hsame.mono (by decide) (by decide)⟩
  · show Steps p.tables e below (s₁.setTop (mkF m 0 #[.val (.double u1), .second] [])) _
    refine XS.dloadN X0.here hx rfl (hb hby d2_0) rfl ?_
    show Steps p.tables e below (s₁.setTop (mkF m 1 #[.val (.double u1), .second] [(.double u1)])) _
    refine XS.dconst0 X0.here hx rfl (hb hby d2_1) rfl ?_
    show Steps p.tables e below (s₁.setTop (mkF m 2 #[.val (.double u1), .second] [(.double FP.dconst0), (.double u1)])) _
    refine XS.dcmpS X0.here hx rfl (hb hby d2_2) rfl rfl ?_
    show Steps p.tables e below (s₁.setTop (mkF m 3 #[.val (.double u1), .second] [(.int (cmpValue (FP.dcmp u1 FP.dconst0) .l))])) _
    refine XS.ifYes X0.here hx rfl (pc0 := 3) (pc' := 16) rfl (hb hby d2_3) rfl ((if0 _ _).trans (flt hc3).2.2.2) (by decide) (by decide) ?_
    show Steps p.tables e below (s₁.setTop (mkF m 16 #[.val (.double u1), .second] [])) _
    refine XS.iconst X0.here hx rfl (hb hby d2_16) ?_
    show Steps p.tables e below (s₁.setTop (mkF m 17 #[.val (.double u1), .second] [(.int (0 : Int32))])) _
    exact retN X0 hx (t := .boolean) Bd.returns (by simp) (hb hby d2_17) hr
  · show QP (some (.int (0 : Int32))) h0 n0 _ s₁.heap _
    rw [e0]
    exact ⟨rfl, N0, rfl⟩
theorem d2_6 : decode prog_32_method_4_code 6 = .ok (.dload_n 0, 1) := by decide +kernel
theorem d2_7 : decode prog_32_method_4_code 7 = .ok (.dconst 1, 1) := by decide +kernel
theorem d2_8 : decode prog_32_method_4_code 8 = .ok (.dcmp .g, 1) := by decide +kernel
theorem d2_9 : decode prog_32_method_4_code 9 = .ok (.ifCond .ge 7, 3) := by decide +kernel
set_option maxRecDepth 65536 in
set_option maxHeartbeats 40000000 in
theorem rm2_ft (l : Launch) (Z : State) (a0 : Array Value) (hw : ∀ d ∈ tables_1, d.before a0 Z = true) (ws : List Jvm.Cond) (u1 : UInt64) (h0 : Heap) (n0 : Nat) (Z0 : n0 ≤ h0.size) (hc3 : (0 : Int32) < (cmpValue (FP.dcmp u1 FP.dconst0) .l)) (hc9 : ¬ ((cmpValue (FP.dcmp u1 FP.dconst1) .g) < (0 : Int32))) :
    MetFree l (⟨"com/example/echo_bridge/echobridge/membership/FilterTarget", "isRate", "(D)Z"⟩ : MethodName) (head1 (Jvm.Cond.code (⟨"com/example/echo_bridge/echobridge/membership/FilterTarget", "isRate", "(D)Z"⟩ : MethodName) prog_32_method_4_code 2 (some .boolean) :: ws) ({ frames := 0, cells := 0, slots := 0, locals := 0 } : Room)) (fun a U => a = #[(.double u1)] ∧ Z.Warmed39 U.vm ∧ U.heap = h0) (fun _ _ _ _ _ => True) (fun _ U o U' => ∃ v L, o = .returned v ∧ QP (some (.int (0 : Int32))) h0 n0 v U'.heap L ∧ FrameEnd U o U' L ({ frames := 0, cells := 0, slots := 0, locals := 0 } : Room).cells ({ frames := 0, cells := 0, slots := 0, locals := 0 } : Room).slots) := by
  refine MetFree.of_bodySF (plainFor_of_name pn_2) hisR ?_
  intro p e s m args below meth c s₁ Bd hml0 hP hK
  obtain ⟨rfl, hZ, hh⟩ := hP
  have hx := Bd.exec
  have hby := Bd.bytes
  have hml : c.maxLocals = 2 := hml0
  have hown : s.vm.findClass "com/example/echo_bridge/echobridge/membership/FilterTarget" = some m.cls := findClass_of_methodNamed Bd.named
  have hnm := (name_of_methodNamed Bd.named Bd.method).1
  have X0 : Stand p l e ({ frames := 0, cells := 0, slots := 0, locals := 0 } : Room) s m #[(.double u1)] below meth c s₁ [] 0 0 := Stand.of_body Bd
  have e0 : s₁.heap = h0 := by rw [← hh, Bd.state]; rfl
  have N0 := Fr.nil n0
  have pre0 : ∀ t, Steps p.tables e below (s₁.setTop (mkF m 0 #[.val (.double u1), .second] [])) t → Steps p.tables e below (s₁.setTop (entryFrame m #[(.double u1)] 2)) t := fun t k => castTop (ef_2 m u1) k

  obtain ⟨fs, hr, hrun, hended, hW, hsame⟩ := X0.leave (v := some (.int (0 : Int32))) (fun h => by rw [Bd.returns] at h; cases h)
  refine ⟨_, _, pre0 _ ?_, hrun, hended, _, _, rfl, ?_, ⟨_, rfl⟩, hW, hsame.mono (by decide) (by decide)⟩
  · show Steps p.tables e below (s₁.setTop (mkF m 0 #[.val (.double u1), .second] [])) _
    refine XS.dloadN X0.here hx rfl (hb hby d2_0) rfl ?_
    show Steps p.tables e below (s₁.setTop (mkF m 1 #[.val (.double u1), .second] [(.double u1)])) _
    refine XS.dconst0 X0.here hx rfl (hb hby d2_1) rfl ?_
    show Steps p.tables e below (s₁.setTop (mkF m 2 #[.val (.double u1), .second] [(.double FP.dconst0), (.double u1)])) _
    refine XS.dcmpS X0.here hx rfl (hb hby d2_2) rfl rfl ?_
    show Steps p.tables e below (s₁.setTop (mkF m 3 #[.val (.double u1), .second] [(.int (cmpValue (FP.dcmp u1 FP.dconst0) .l))])) _
    refine XS.ifNo X0.here hx rfl (hb hby d2_3) rfl ((if0 _ _).trans (tlt hc3).2.2.2) ?_
    show Steps p.tables e below (s₁.setTop (mkF m 6 #[.val (.double u1), .second] [])) _
    refine XS.dloadN X0.here hx rfl (hb hby d2_6) rfl ?_
    show Steps p.tables e below (s₁.setTop (mkF m 7 #[.val (.double u1), .second] [(.double u1)])) _
    refine XS.dconst1 X0.here hx rfl (hb hby d2_7) rfl ?_
    show Steps p.tables e below (s₁.setTop (mkF m 8 #[.val (.double u1), .second] [(.double FP.dconst1), (.double u1)])) _
    refine XS.dcmpS X0.here hx rfl (hb hby d2_8) rfl rfl ?_
    show Steps p.tables e below (s₁.setTop (mkF m 9 #[.val (.double u1), .second] [(.int (cmpValue (FP.dcmp u1 FP.dconst1) .g))])) _
    refine XS.ifYes X0.here hx rfl (pc0 := 9) (pc' := 16) rfl (hb hby d2_9) rfl ((if0 _ _).trans (flt hc9).2.1) (by decide) (by decide) ?_
    show Steps p.tables e below (s₁.setTop (mkF m 16 #[.val (.double u1), .second] [])) _
    refine XS.iconst X0.here hx rfl (hb hby d2_16) ?_
    show Steps p.tables e below (s₁.setTop (mkF m 17 #[.val (.double u1), .second] [(.int (0 : Int32))])) _
    exact retN X0 hx (t := .boolean) Bd.returns (by simp) (hb hby d2_17) hr
  · show QP (some (.int (0 : Int32))) h0 n0 _ s₁.heap _
    rw [e0]
    exact ⟨rfl, N0, rfl⟩
theorem d2_12 : decode prog_32_method_4_code 12 = .ok (.iconst 1, 1) := by decide +kernel
theorem d2_13 : decode prog_32_method_4_code 13 = .ok (.goto 4, 3) := by decide +kernel
set_option maxRecDepth 65536 in
set_option maxHeartbeats 40000000 in
theorem rm2_ff (l : Launch) (Z : State) (a0 : Array Value) (hw : ∀ d ∈ tables_1, d.before a0 Z = true) (ws : List Jvm.Cond) (u1 : UInt64) (h0 : Heap) (n0 : Nat) (Z0 : n0 ≤ h0.size) (hc3 : (0 : Int32) < (cmpValue (FP.dcmp u1 FP.dconst0) .l)) (hc9 : (cmpValue (FP.dcmp u1 FP.dconst1) .g) < (0 : Int32)) :
    MetFree l (⟨"com/example/echo_bridge/echobridge/membership/FilterTarget", "isRate", "(D)Z"⟩ : MethodName) (head1 (Jvm.Cond.code (⟨"com/example/echo_bridge/echobridge/membership/FilterTarget", "isRate", "(D)Z"⟩ : MethodName) prog_32_method_4_code 2 (some .boolean) :: ws) ({ frames := 0, cells := 0, slots := 0, locals := 0 } : Room)) (fun a U => a = #[(.double u1)] ∧ Z.Warmed39 U.vm ∧ U.heap = h0) (fun _ _ _ _ _ => True) (fun _ U o U' => ∃ v L, o = .returned v ∧ QP (some (.int (1 : Int32))) h0 n0 v U'.heap L ∧ FrameEnd U o U' L ({ frames := 0, cells := 0, slots := 0, locals := 0 } : Room).cells ({ frames := 0, cells := 0, slots := 0, locals := 0 } : Room).slots) := by
  refine MetFree.of_bodySF (plainFor_of_name pn_2) hisR ?_
  intro p e s m args below meth c s₁ Bd hml0 hP hK
  obtain ⟨rfl, hZ, hh⟩ := hP
  have hx := Bd.exec
  have hby := Bd.bytes
  have hml : c.maxLocals = 2 := hml0
  have hown : s.vm.findClass "com/example/echo_bridge/echobridge/membership/FilterTarget" = some m.cls := findClass_of_methodNamed Bd.named
  have hnm := (name_of_methodNamed Bd.named Bd.method).1
  have X0 : Stand p l e ({ frames := 0, cells := 0, slots := 0, locals := 0 } : Room) s m #[(.double u1)] below meth c s₁ [] 0 0 := Stand.of_body Bd
  have e0 : s₁.heap = h0 := by rw [← hh, Bd.state]; rfl
  have N0 := Fr.nil n0
  have pre0 : ∀ t, Steps p.tables e below (s₁.setTop (mkF m 0 #[.val (.double u1), .second] [])) t → Steps p.tables e below (s₁.setTop (entryFrame m #[(.double u1)] 2)) t := fun t k => castTop (ef_2 m u1) k

  obtain ⟨fs, hr, hrun, hended, hW, hsame⟩ := X0.leave (v := some (.int (1 : Int32))) (fun h => by rw [Bd.returns] at h; cases h)
  refine ⟨_, _, pre0 _ ?_, hrun, hended, _, _, rfl, ?_, ⟨_, rfl⟩, hW, hsame.mono (by decide) (by decide)⟩
  · show Steps p.tables e below (s₁.setTop (mkF m 0 #[.val (.double u1), .second] [])) _
    refine XS.dloadN X0.here hx rfl (hb hby d2_0) rfl ?_
    show Steps p.tables e below (s₁.setTop (mkF m 1 #[.val (.double u1), .second] [(.double u1)])) _
    refine XS.dconst0 X0.here hx rfl (hb hby d2_1) rfl ?_
    show Steps p.tables e below (s₁.setTop (mkF m 2 #[.val (.double u1), .second] [(.double FP.dconst0), (.double u1)])) _
    refine XS.dcmpS X0.here hx rfl (hb hby d2_2) rfl rfl ?_
    show Steps p.tables e below (s₁.setTop (mkF m 3 #[.val (.double u1), .second] [(.int (cmpValue (FP.dcmp u1 FP.dconst0) .l))])) _
    refine XS.ifNo X0.here hx rfl (hb hby d2_3) rfl ((if0 _ _).trans (tlt hc3).2.2.2) ?_
    show Steps p.tables e below (s₁.setTop (mkF m 6 #[.val (.double u1), .second] [])) _
    refine XS.dloadN X0.here hx rfl (hb hby d2_6) rfl ?_
    show Steps p.tables e below (s₁.setTop (mkF m 7 #[.val (.double u1), .second] [(.double u1)])) _
    refine XS.dconst1 X0.here hx rfl (hb hby d2_7) rfl ?_
    show Steps p.tables e below (s₁.setTop (mkF m 8 #[.val (.double u1), .second] [(.double FP.dconst1), (.double u1)])) _
    refine XS.dcmpS X0.here hx rfl (hb hby d2_8) rfl rfl ?_
    show Steps p.tables e below (s₁.setTop (mkF m 9 #[.val (.double u1), .second] [(.int (cmpValue (FP.dcmp u1 FP.dconst1) .g))])) _
    refine XS.ifNo X0.here hx rfl (hb hby d2_9) rfl ((if0 _ _).trans (tlt hc9).2.1) ?_
    show Steps p.tables e below (s₁.setTop (mkF m 12 #[.val (.double u1), .second] [])) _
    refine XS.iconst X0.here hx rfl (hb hby d2_12) ?_
    show Steps p.tables e below (s₁.setTop (mkF m 13 #[.val (.double u1), .second] [(.int (1 : Int32))])) _
    refine XS.goto X0.here hx rfl (pc0 := 13) (pc' := 17) rfl (hb hby d2_13) (by decide) (by decide) ?_
    show Steps p.tables e below (s₁.setTop (mkF m 17 #[.val (.double u1), .second] [(.int (1 : Int32))])) _
    exact retN X0 hx (t := .boolean) Bd.returns (by simp) (hb hby d2_17) hr
  · show QP (some (.int (1 : Int32))) h0 n0 _ s₁.heap _
    rw [e0]
    exact ⟨rfl, N0, rfl⟩
theorem rm2 (l : Launch) (Z : State) (a0 : Array Value) (hw : ∀ d ∈ tables_1, d.before a0 Z = true) (ws : List Jvm.Cond) (u1 : UInt64) (h0 : Heap) (n0 : Nat) (Z0 : n0 ≤ h0.size) :
    MetFree l (⟨"com/example/echo_bridge/echobridge/membership/FilterTarget", "isRate", "(D)Z"⟩ : MethodName) (head1 (Jvm.Cond.code (⟨"com/example/echo_bridge/echobridge/membership/FilterTarget", "isRate", "(D)Z"⟩ : MethodName) prog_32_method_4_code 2 (some .boolean) :: ws) ({ frames := 0, cells := 0, slots := 0, locals := 0 } : Room)) (fun a U => a = #[(.double u1)] ∧ Z.Warmed39 U.vm ∧ U.heap = h0) (fun _ _ _ _ _ => True) (fun _ U o U' => ∃ v L, o = .returned v ∧ QP (some (.int (F2 u1))) h0 n0 v U'.heap L ∧ FrameEnd U o U' L ({ frames := 0, cells := 0, slots := 0, locals := 0 } : Room).cells ({ frames := 0, cells := 0, slots := 0, locals := 0 } : Room).slots) := by
  by_cases h3 : (0 : Int32) < cmpValue (FP.dcmp u1 FP.dconst0) .l
  · by_cases h9 : cmpValue (FP.dcmp u1 FP.dconst1) .g < (0 : Int32)
    · rw [show F2 u1 = 1 from (if_pos h3).trans (if_pos h9)]; exact rm2_ff l Z a0 hw ws u1 h0 n0 Z0 h3 h9
    · rw [show F2 u1 = 0 from (if_pos h3).trans (if_neg h9)]; exact rm2_ft l Z a0 hw ws u1 h0 n0 Z0 h3 h9
  · rw [show F2 u1 = 0 from if_neg h3]; exact rm2_t l Z a0 hw ws u1 h0 n0 Z0 h3
theorem d1_0 : decode prog_32_method_2_code 0 = .ok (.lload_n 0, 1) := by decide +kernel
theorem d1_1 : decode prog_32_method_2_code 1 = .ok (.lconst 1, 1) := by decide +kernel
theorem d1_2 : decode prog_32_method_2_code 2 = .ok (.lcmp, 1) := by decide +kernel
theorem d1_3 : decode prog_32_method_2_code 3 = .ok (.ifCond .lt 14, 3) := by decide +kernel
theorem d1_17 : decode prog_32_method_2_code 17 = .ok (.iconst 0, 1) := by decide +kernel
theorem d1_18 : decode prog_32_method_2_code 18 = .ok (.ireturn, 1) := by decide +kernel
theorem pn_1 : plainName "com/example/echo_bridge/echobridge/membership/FilterTarget" = true := by first | (simp [plainName, overriddenIn]; done) | decide +kernel
theorem ef_1 (m : MethodId) (x0 : Int64) (x1 : UInt64) : entryFrame m #[(.long x0), (.double x1)] 4 = mkF m 0 #[.val (.long x0), .second, .val (.double x1), .second] [] := by first | (simp [entryFrame, mkF, argsToLocals, Value.category]; done) | rfl
set_option maxRecDepth 65536 in
set_option maxHeartbeats 40000000 in
theorem rm1_t (l : Launch) (Z : State) (a0 : Array Value) (hw : ∀ d ∈ tables_1, d.before a0 Z = true) (ws : List Jvm.Cond) (q1 : Int64) (u2 : UInt64) (h0 : Heap) (n0 : Nat) (Z0 : n0 ≤ h0.size) (hc3 : (lcmpW q1 (1 : Int64)) < (0 : Int32)) :
    MetFree l (⟨"com/example/echo_bridge/echobridge/membership/FilterTarget", "isValid", "(JD)Z"⟩ : MethodName) (head1 (Jvm.Cond.code (⟨"com/example/echo_bridge/echobridge/membership/FilterTarget", "isValid", "(JD)Z"⟩ : MethodName) prog_32_method_2_code 4 (some .boolean) :: ws) ({ frames := 1, cells := 0, slots := 0, locals := 13 } : Room)) (fun a U => a = #[(.long q1), (.double u2)] ∧ Z.Warmed39 U.vm ∧ U.heap = h0) (fun _ _ _ _ _ => True) (fun _ U o U' => ∃ v L, o = .returned v ∧ QP (some (.int (0 : Int32))) h0 n0 v U'.heap L ∧ FrameEnd U o U' L ({ frames := 1, cells := 0, slots := 0, locals := 13 } : Room).cells ({ frames := 1, cells := 0, slots := 0, locals := 13 } : Room).slots) := by
  refine MetFree.of_bodySF (plainFor_of_name pn_1) hisR ?_
  intro p e s m args below meth c s₁ Bd hml0 hP hK
  obtain ⟨rfl, hZ, hh⟩ := hP
  have hx := Bd.exec
  have hby := Bd.bytes
  have hml : c.maxLocals = 4 := hml0
  have hown : s.vm.findClass "com/example/echo_bridge/echobridge/membership/FilterTarget" = some m.cls := findClass_of_methodNamed Bd.named
  have hnm := (name_of_methodNamed Bd.named Bd.method).1
  have X0 : Stand p l e ({ frames := 1, cells := 0, slots := 0, locals := 13 } : Room) s m #[(.long q1), (.double u2)] below meth c s₁ [] 0 0 := Stand.of_body Bd
  have e0 : s₁.heap = h0 := by rw [← hh, Bd.state]; rfl
  have N0 := Fr.nil n0
  have pre0 : ∀ t, Steps p.tables e below (s₁.setTop (mkF m 0 #[.val (.long q1), .second, .val (.double u2), .second] [])) t → Steps p.tables e below (s₁.setTop (entryFrame m #[(.long q1), (.double u2)] 4)) t := fun t k => castTop (ef_1 m q1 u2) k

  obtain ⟨fs, hr, hrun, hended, hW, hsame⟩ := X0.leave (v := some (.int (0 : Int32))) (fun h => by rw [Bd.returns] at h; cases h)
  refine ⟨_, _, pre0 _ ?_, hrun, hended, _, _, rfl, ?_, ⟨_, rfl⟩, hW, hsame.mono (by decide) (by decide)⟩
  · show Steps p.tables e below (s₁.setTop (mkF m 0 #[.val (.long q1), .second, .val (.double u2), .second] [])) _
    refine XS.lloadN X0.here hx rfl (hb hby d1_0) rfl ?_
    show Steps p.tables e below (s₁.setTop (mkF m 1 #[.val (.long q1), .second, .val (.double u2), .second] [(.long q1)])) _
    refine XS.lconst X0.here hx rfl (hb hby d1_1) ?_
    show Steps p.tables e below (s₁.setTop (mkF m 2 #[.val (.long q1), .second, .val (.double u2), .second] [(.long (1 : Int64)), (.long q1)])) _
    refine XS.lcmp X0.here hx rfl (hb hby d1_2) rfl ?_
    show Steps p.tables e below (s₁.setTop (mkF m 3 #[.val (.long q1), .second, .val (.double u2), .second] [(.int (lcmpW q1 (1 : Int64)))])) _
    refine XS.ifYes X0.here hx rfl (pc0 := 3) (pc' := 17) rfl (hb hby d1_3) rfl ((if0 _ _).trans (tlt hc3).1) (by decide) (by decide) ?_
    show Steps p.tables e below (s₁.setTop (mkF m 17 #[.val (.long q1), .second, .val (.double u2), .second] [])) _
    refine XS.iconst X0.here hx rfl (hb hby d1_17) ?_
    show Steps p.tables e below (s₁.setTop (mkF m 18 #[.val (.long q1), .second, .val (.double u2), .second] [(.int (0 : Int32))])) _
    exact retN X0 hx (t := .boolean) Bd.returns (by simp) (hb hby d1_18) hr
  · show QP (some (.int (0 : Int32))) h0 n0 _ s₁.heap _
    rw [e0]
    exact ⟨rfl, N0, rfl⟩
theorem d1_6 : decode prog_32_method_2_code 6 = .ok (.dload_n 2, 1) := by decide +kernel
theorem d1_7 : decode prog_32_method_2_code 7 = .ok (.invokestatic 7, 3) := by decide +kernel
theorem d1_10 : decode prog_32_method_2_code 10 = .ok (.ifCond .eq 7, 3) := by decide +kernel
theorem pd_1_1 : parseMethodDescriptor "(D)Z" = some ⟨[.double], some .boolean⟩ := by decide +kernel
set_option maxRecDepth 65536 in
set_option maxHeartbeats 40000000 in
theorem rm1_ft (l : Launch) (Z : State) (a0 : Array Value) (hw : ∀ d ∈ tables_1, d.before a0 Z = true) (ws : List Jvm.Cond) (q1 : Int64) (u2 : UInt64) (h0 : Heap) (n0 : Nat) (Z0 : n0 ≤ h0.size) (hc3 : ¬ ((lcmpW q1 (1 : Int64)) < (0 : Int32))) (hq1 : (F2 u2) = (0 : Int32)) :
    MetFree l (⟨"com/example/echo_bridge/echobridge/membership/FilterTarget", "isValid", "(JD)Z"⟩ : MethodName) (head1 (Jvm.Cond.code (⟨"com/example/echo_bridge/echobridge/membership/FilterTarget", "isValid", "(JD)Z"⟩ : MethodName) prog_32_method_2_code 4 (some .boolean) :: ws) ({ frames := 1, cells := 0, slots := 0, locals := 13 } : Room)) (fun a U => a = #[(.long q1), (.double u2)] ∧ Z.Warmed39 U.vm ∧ U.heap = h0) (fun _ _ _ _ _ => True) (fun _ U o U' => ∃ v L, o = .returned v ∧ QP (some (.int (0 : Int32))) h0 n0 v U'.heap L ∧ FrameEnd U o U' L ({ frames := 1, cells := 0, slots := 0, locals := 13 } : Room).cells ({ frames := 1, cells := 0, slots := 0, locals := 13 } : Room).slots) := by
  refine MetFree.of_bodySF (plainFor_of_name pn_1) hisR ?_
  intro p e s m args below meth c s₁ Bd hml0 hP hK
  obtain ⟨rfl, hZ, hh⟩ := hP
  have hx := Bd.exec
  have hby := Bd.bytes
  have hml : c.maxLocals = 4 := hml0
  have hown : s.vm.findClass "com/example/echo_bridge/echobridge/membership/FilterTarget" = some m.cls := findClass_of_methodNamed Bd.named
  have hnm := (name_of_methodNamed Bd.named Bd.method).1
  have X0 : Stand p l e ({ frames := 1, cells := 0, slots := 0, locals := 13 } : Room) s m #[(.long q1), (.double u2)] below meth c s₁ [] 0 0 := Stand.of_body Bd
  have e0 : s₁.heap = h0 := by rw [← hh, Bd.state]; rfl
  have N0 := Fr.nil n0
  have pre0 : ∀ t, Steps p.tables e below (s₁.setTop (mkF m 0 #[.val (.long q1), .second, .val (.double u2), .second] [])) t → Steps p.tables e below (s₁.setTop (entryFrame m #[(.long q1), (.double u2)] 4)) t := fun t k => castTop (ef_1 m q1 u2) k
  obtain ⟨_, _, ⟨T3, L3, k3, n3⟩, -, X3, ⟨Lc3, hQ3, l3, y3, z3⟩, st3⟩ := Jvm.LawKit.callS X0 hx (y := (⟨"com/example/echo_bridge/echobridge/membership/FilterTarget", "isRate", "(D)Z"⟩ : MethodName)) hown (mvT hZ (hw _ (List.mem_of_getElem? (i := 4) rfl))) (mvT hZ (hw _ (List.mem_of_getElem? (i := 5) rfl))) (mvT hZ (hw _ (List.mem_of_getElem? (i := 2) rfl))) (mvT hZ (hw _ (List.mem_of_getElem? (i := 6) rfl))) (by decide) (backOf (W := 0) (rm2 l Z a0 hw [] u2 h0 n0 Z0) hZ (hw _ (List.mem_of_getElem? (i := 6) rfl)) (hw _ (List.mem_of_getElem? (i := 2) rfl)) (by decide) (by decide)) (g := (mkF m 7 #[.val (.long q1), .second, .val (.double u2), .second] [(.double u2)])) rfl (by rw [hml]; rfl) (argsL := [(.double u2)]) (rest := []) (lenOf pd_1_1 rfl) rfl (by show 2 * 0 + _ ≤ _; exact Nat.le_of_eq rfl) (hb hby d1_7) (fun _ _ => ⟨rfl, e0, (by decide : 0 + 0 ≤ _), (by decide : 0 + 0 ≤ _)⟩)
  dsimp only [Pt.U, Pt.locs, Pt.cells, Pt.slots] at X3 l3 y3 z3 st3 hQ3
  subst l3 y3 z3
  obtain ⟨rfl, N3q, eh3⟩ := hQ3
  have N3 := Fr.app N0 N3q
  obtain ⟨fs, hr, hrun, hended, hW, hsame⟩ := X3.leave (v := some (.int (0 : Int32))) (fun h => by rw [Bd.returns] at h; cases h)
  refine ⟨_, _, pre0 _ ?_, hrun, hended, _, _, rfl, ?_, ⟨_, rfl⟩, hW, hsame.mono (by decide) (by decide)⟩
  · show Steps p.tables e below (s₁.setTop (mkF m 0 #[.val (.long q1), .second, .val (.double u2), .second] [])) _
    refine XS.lloadN X0.here hx rfl (hb hby d1_0) rfl ?_
    show Steps p.tables e below (s₁.setTop (mkF m 1 #[.val (.long q1), .second, .val (.double u2), .second] [(.long q1)])) _
    refine XS.lconst X0.here hx rfl (hb hby d1_1) ?_
    show Steps p.tables e below (s₁.setTop (mkF m 2 #[.val (.long q1), .second, .val (.double u2), .second] [(.long (1 : Int64)), (.long q1)])) _
    refine XS.lcmp X0.here hx rfl (hb hby d1_2) rfl ?_
    show Steps p.tables e below (s₁.setTop (mkF m 3 #[.val (.long q1), .second, .val (.double u2), .second] [(.int (lcmpW q1 (1 : Int64)))])) _
    refine XS.ifNo X0.here hx rfl (hb hby d1_3) rfl ((if0 _ _).trans (flt hc3).1) ?_
    show Steps p.tables e below (s₁.setTop (mkF m 6 #[.val (.long q1), .second, .val (.double u2), .second] [])) _
    refine XS.dloadN X0.here hx rfl (hb hby d1_6) rfl ?_
    show Steps p.tables e below (s₁.setTop (mkF m 7 #[.val (.long q1), .second, .val (.double u2), .second] [(.double u2)])) _
    refine st3 _ ?_
    show Steps p.tables e below (T3.setTop (mkF m 10 #[.val (.long q1), .second, .val (.double u2), .second] [(.int (F2 u2))])) _
    refine XS.ifYes X3.here hx rfl (pc0 := 10) (pc' := 17) rfl (hb hby d1_10) rfl ((if0 _ _).trans (teq hq1).1) (by decide) (by decide) ?_
    show Steps p.tables e below (T3.setTop (mkF m 17 #[.val (.long q1), .second, .val (.double u2), .second] [])) _
    refine XS.iconst X3.here hx rfl (hb hby d1_17) ?_
    show Steps p.tables e below (T3.setTop (mkF m 18 #[.val (.long q1), .second, .val (.double u2), .second] [(.int (0 : Int32))])) _
    exact retN X3 hx (t := .boolean) Bd.returns (by simp) (hb hby d1_18) hr
  · show QP (some (.int (0 : Int32))) h0 n0 _ T3.heap _
    exact ⟨rfl, N3, eh3⟩
theorem d1_13 : decode prog_32_method_2_code 13 = .ok (.iconst 1, 1) := by decide +kernel
theorem d1_14 : decode prog_32_method_2_code 14 = .ok (.goto 4, 3) := by decide +kernel
set_option maxRecDepth 65536 in
set_option maxHeartbeats 40000000 in
theorem rm1_ff (l : Launch) (Z : State) (a0 : Array Value) (hw : ∀ d ∈ tables_1, d.before a0 Z = true) (ws : List Jvm.Cond) (q1 : Int64) (u2 : UInt64) (h0 : Heap) (n0 : Nat) (Z0 : n0 ≤ h0.size) (hc3 : ¬ ((lcmpW q1 (1 : Int64)) < (0 : Int32))) (hq1 : ¬ ((F2 u2) = (0 : Int32))) :
    MetFree l (⟨"com/example/echo_bridge/echobridge/membership/FilterTarget", "isValid", "(JD)Z"⟩ : MethodName) (head1 (Jvm.Cond.code (⟨"com/example/echo_bridge/echobridge/membership/FilterTarget", "isValid", "(JD)Z"⟩ : MethodName) prog_32_method_2_code 4 (some .boolean) :: ws) ({ frames := 1, cells := 0, slots := 0, locals := 13 } : Room)) (fun a U => a = #[(.long q1), (.double u2)] ∧ Z.Warmed39 U.vm ∧ U.heap = h0) (fun _ _ _ _ _ => True) (fun _ U o U' => ∃ v L, o = .returned v ∧ QP (some (.int (1 : Int32))) h0 n0 v U'.heap L ∧ FrameEnd U o U' L ({ frames := 1, cells := 0, slots := 0, locals := 13 } : Room).cells ({ frames := 1, cells := 0, slots := 0, locals := 13 } : Room).slots) := by
  refine MetFree.of_bodySF (plainFor_of_name pn_1) hisR ?_
  intro p e s m args below meth c s₁ Bd hml0 hP hK
  obtain ⟨rfl, hZ, hh⟩ := hP
  have hx := Bd.exec
  have hby := Bd.bytes
  have hml : c.maxLocals = 4 := hml0
  have hown : s.vm.findClass "com/example/echo_bridge/echobridge/membership/FilterTarget" = some m.cls := findClass_of_methodNamed Bd.named
  have hnm := (name_of_methodNamed Bd.named Bd.method).1
  have X0 : Stand p l e ({ frames := 1, cells := 0, slots := 0, locals := 13 } : Room) s m #[(.long q1), (.double u2)] below meth c s₁ [] 0 0 := Stand.of_body Bd
  have e0 : s₁.heap = h0 := by rw [← hh, Bd.state]; rfl
  have N0 := Fr.nil n0
  have pre0 : ∀ t, Steps p.tables e below (s₁.setTop (mkF m 0 #[.val (.long q1), .second, .val (.double u2), .second] [])) t → Steps p.tables e below (s₁.setTop (entryFrame m #[(.long q1), (.double u2)] 4)) t := fun t k => castTop (ef_1 m q1 u2) k
  obtain ⟨_, _, ⟨T3, L3, k3, n3⟩, -, X3, ⟨Lc3, hQ3, l3, y3, z3⟩, st3⟩ := Jvm.LawKit.callS X0 hx (y := (⟨"com/example/echo_bridge/echobridge/membership/FilterTarget", "isRate", "(D)Z"⟩ : MethodName)) hown (mvT hZ (hw _ (List.mem_of_getElem? (i := 4) rfl))) (mvT hZ (hw _ (List.mem_of_getElem? (i := 5) rfl))) (mvT hZ (hw _ (List.mem_of_getElem? (i := 2) rfl))) (mvT hZ (hw _ (List.mem_of_getElem? (i := 6) rfl))) (by decide) (backOf (W := 0) (rm2 l Z a0 hw [] u2 h0 n0 Z0) hZ (hw _ (List.mem_of_getElem? (i := 6) rfl)) (hw _ (List.mem_of_getElem? (i := 2) rfl)) (by decide) (by decide)) (g := (mkF m 7 #[.val (.long q1), .second, .val (.double u2), .second] [(.double u2)])) rfl (by rw [hml]; rfl) (argsL := [(.double u2)]) (rest := []) (lenOf pd_1_1 rfl) rfl (by show 2 * 0 + _ ≤ _; exact Nat.le_of_eq rfl) (hb hby d1_7) (fun _ _ => ⟨rfl, e0, (by decide : 0 + 0 ≤ _), (by decide : 0 + 0 ≤ _)⟩)
  dsimp only [Pt.U, Pt.locs, Pt.cells, Pt.slots] at X3 l3 y3 z3 st3 hQ3
  subst l3 y3 z3
  obtain ⟨rfl, N3q, eh3⟩ := hQ3
  have N3 := Fr.app N0 N3q
  obtain ⟨fs, hr, hrun, hended, hW, hsame⟩ := X3.leave (v := some (.int (1 : Int32))) (fun h => by rw [Bd.returns] at h; cases h)
  refine ⟨_, _, pre0 _ ?_, hrun, hended, _, _, rfl, ?_, ⟨_, rfl⟩, hW, hsame.mono (by decide) (by decide)⟩
  · show Steps p.tables e below (s₁.setTop (mkF m 0 #[.val (.long q1), .second, .val (.double u2), .second] [])) _
    refine XS.lloadN X0.here hx rfl (hb hby d1_0) rfl ?_
    show Steps p.tables e below (s₁.setTop (mkF m 1 #[.val (.long q1), .second, .val (.double u2), .second] [(.long q1)])) _
    refine XS.lconst X0.here hx rfl (hb hby d1_1) ?_
    show Steps p.tables e below (s₁.setTop (mkF m 2 #[.val (.long q1), .second, .val (.double u2), .second] [(.long (1 : Int64)), (.long q1)])) _
    refine XS.lcmp X0.here hx rfl (hb hby d1_2) rfl ?_
    show Steps p.tables e below (s₁.setTop (mkF m 3 #[.val (.long q1), .second, .val (.double u2), .second] [(.int (lcmpW q1 (1 : Int64)))])) _
    refine XS.ifNo X0.here hx rfl (hb hby d1_3) rfl ((if0 _ _).trans (flt hc3).1) ?_
    show Steps p.tables e below (s₁.setTop (mkF m 6 #[.val (.long q1), .second, .val (.double u2), .second] [])) _
    refine XS.dloadN X0.here hx rfl (hb hby d1_6) rfl ?_
    show Steps p.tables e below (s₁.setTop (mkF m 7 #[.val (.long q1), .second, .val (.double u2), .second] [(.double u2)])) _
    refine st3 _ ?_
    show Steps p.tables e below (T3.setTop (mkF m 10 #[.val (.long q1), .second, .val (.double u2), .second] [(.int (F2 u2))])) _
    refine XS.ifNo X3.here hx rfl (hb hby d1_10) rfl ((if0 _ _).trans (feq hq1).1) ?_
    show Steps p.tables e below (T3.setTop (mkF m 13 #[.val (.long q1), .second, .val (.double u2), .second] [])) _
    refine XS.iconst X3.here hx rfl (hb hby d1_13) ?_
    show Steps p.tables e below (T3.setTop (mkF m 14 #[.val (.long q1), .second, .val (.double u2), .second] [(.int (1 : Int32))])) _
    refine XS.goto X3.here hx rfl (pc0 := 14) (pc' := 18) rfl (hb hby d1_14) (by decide) (by decide) ?_
    show Steps p.tables e below (T3.setTop (mkF m 18 #[.val (.long q1), .second, .val (.double u2), .second] [(.int (1 : Int32))])) _
    exact retN X3 hx (t := .boolean) Bd.returns (by simp) (hb hby d1_18) hr
  · show QP (some (.int (1 : Int32))) h0 n0 _ T3.heap _
    exact ⟨rfl, N3, eh3⟩
theorem rm1 (l : Launch) (Z : State) (a0 : Array Value) (hw : ∀ d ∈ tables_1, d.before a0 Z = true) (ws : List Jvm.Cond) (q1 : Int64) (u2 : UInt64) (h0 : Heap) (n0 : Nat) (Z0 : n0 ≤ h0.size) :
    MetFree l (⟨"com/example/echo_bridge/echobridge/membership/FilterTarget", "isValid", "(JD)Z"⟩ : MethodName) (head1 (Jvm.Cond.code (⟨"com/example/echo_bridge/echobridge/membership/FilterTarget", "isValid", "(JD)Z"⟩ : MethodName) prog_32_method_2_code 4 (some .boolean) :: ws) ({ frames := 1, cells := 0, slots := 0, locals := 13 } : Room)) (fun a U => a = #[(.long q1), (.double u2)] ∧ Z.Warmed39 U.vm ∧ U.heap = h0) (fun _ _ _ _ _ => True) (fun _ U o U' => ∃ v L, o = .returned v ∧ QP (some (.int (F1 q1 u2))) h0 n0 v U'.heap L ∧ FrameEnd U o U' L ({ frames := 1, cells := 0, slots := 0, locals := 13 } : Room).cells ({ frames := 1, cells := 0, slots := 0, locals := 13 } : Room).slots) := by
  by_cases h3 : lcmpW q1 (1 : Int64) < (0 : Int32)
  · rw [show F1 q1 u2 = 0 from if_pos h3]; exact rm1_t l Z a0 hw ws q1 u2 h0 n0 Z0 h3
  · by_cases h : F2 u2 = 0
    · rw [show F1 q1 u2 = 0 from (if_neg h3).trans (if_pos h)]; exact rm1_ft l Z a0 hw ws q1 u2 h0 n0 Z0 h3 h
    · rw [show F1 q1 u2 = 1 from (if_neg h3).trans (if_neg h)]; exact rm1_ff l Z a0 hw ws q1 u2 h0 n0 Z0 h3 h
theorem pn_0 : plainName "com/example/echo_bridge/echobridge/membership/FilterTargetIsValidPinLaw" = true := by first | (simp [plainName, overriddenIn]; done) | decide +kernel
theorem pd_0_0 : parseMethodDescriptor "(JD)Z" = some ⟨[.long, .double], some .boolean⟩ := by decide +kernel
theorem ef_0 (m : MethodId) (x0 : Int64) (x1 : Int32) (x2 : Int32) : entryFrame m #[(.long x0), (.int x1), (.int x2)] maxLocals = mkF m 0 #[.val (.long x0), .second, .val (.int x1), .val (.int x2), .unset, .unset, .unset, .unset, .unset] [] := by first | (simp [entryFrame, mkF, argsToLocals, Value.category, maxLocals]; done) | rfl
set_option maxRecDepth 65536 in
set_option maxHeartbeats 40000000 in
theorem rm0_tf (l : Launch) (Z : State) (a0 : Array Value) (hw : ∀ d ∈ tables_1, d.before a0 Z = true) (ws : List Jvm.Cond) (q1 : Int64) (p2 : Int32) (p3 : Int32) (kk9 : Int32) (kk18 : Int32) (r26 : UInt64) (h0 : Heap) (n0 : Nat) (Z0 : n0 ≤ h0.size) (hk9 : ((p2 &&& (4095 : Int32)) - (2048 : Int32)) = kk9) (hk18 : ((p3 &&& (1023 : Int32)) + (1 : Int32)) = kk18) (hv26 : (FP.ddiv (FP.i2d kk9) (FP.i2d kk18)) = r26) (hn26 : Jvm.Free.Fl.NoNaN64 (FP.ddiv (FP.i2d kk9) (FP.i2d kk18))) (hc32 : (lcmpW q1 (1 : Int64)) < (0 : Int32)) (hq1 : (F1 q1 r26) = (0 : Int32)) :
    MetFree l x (head1 (Jvm.Cond.code x code maxLocals ret :: ws) room_1) (fun a U => a = #[(.long q1), (.int p2), (.int p3)] ∧ Z.Warmed39 U.vm ∧ U.heap = h0) (fun _ _ _ _ _ => True) (fun _ U o U' => ∃ v L, o = .returned v ∧ QL n0 v U'.heap L ∧ FrameEnd U o U' L room_1.cells room_1.slots) := by
  refine MetFree.of_bodySF (plainFor_of_name pn_0) hisR ?_
  intro p e s m args below meth c s₁ Bd hml0 hP hK
  obtain ⟨rfl, hZ, hh⟩ := hP
  have hx := Bd.exec
  have hby := Bd.bytes
  have hml : c.maxLocals = 9 := hml0
  have hown : s.vm.findClass "com/example/echo_bridge/echobridge/membership/FilterTargetIsValidPinLaw" = some m.cls := findClass_of_methodNamed Bd.named
  have hnm := (name_of_methodNamed Bd.named Bd.method).1
  have X0 : Stand p l e room_1 s m #[(.long q1), (.int p2), (.int p3)] below meth c s₁ [] 0 0 := Stand.of_body Bd
  have e0 : s₁.heap = h0 := by rw [← hh, Bd.state]; rfl
  have N0 := Fr.nil n0
  have pre0 : ∀ t, Steps p.tables e below (s₁.setTop (mkF m 0 #[.val (.long q1), .second, .val (.int p2), .val (.int p3), .unset, .unset, .unset, .unset, .unset] [])) t → Steps p.tables e below (s₁.setTop (entryFrame m #[(.long q1), (.int p2), (.int p3)] maxLocals)) t := fun t k => castTop (ef_0 m q1 p2 p3) k
  obtain ⟨_, _, ⟨T4, L4, k4, n4⟩, -, X4, ⟨Lc4, hQ4, l4, y4, z4⟩, st4⟩ := Jvm.LawKit.callS X0 hx (y := (⟨"com/example/echo_bridge/echobridge/membership/FilterTarget", "isValid", "(JD)Z"⟩ : MethodName)) hown (mvT hZ (hw _ (List.mem_of_getElem? (i := 0) rfl))) (mvT hZ (hw _ (List.mem_of_getElem? (i := 1) rfl))) (mvT hZ (hw _ (List.mem_of_getElem? (i := 2) rfl))) (mvT hZ (hw _ (List.mem_of_getElem? (i := 3) rfl))) (by decide) (backOf (W := 0) (rm1 l Z a0 hw [] q1 r26 h0 n0 Z0) hZ (hw _ (List.mem_of_getElem? (i := 3) rfl)) (hw _ (List.mem_of_getElem? (i := 2) rfl)) (by decide) (by decide)) (g := (mkF m 57 #[.val (.long q1), .second, .val (.int p2), .val (.int p3), .val (.int kk9), .val (.int kk18), .val (.double r26), .second, .val (.int (0 : Int32))] [(.double r26), (.long q1)])) rfl (by rw [hml]; rfl) (argsL := [(.long q1), (.double r26)]) (rest := []) (lenOf pd_0_0 rfl) rfl (by show 2 * 0 + _ ≤ _; exact Nat.le_of_eq rfl) (hb hby at_57) (fun _ _ => ⟨rfl, e0, (by decide : 0 + 0 ≤ _), (by decide : 0 + 0 ≤ _)⟩)
  dsimp only [Pt.U, Pt.locs, Pt.cells, Pt.slots] at X4 l4 y4 z4 st4 hQ4
  subst l4 y4 z4
  obtain ⟨rfl, N4q, eh4⟩ := hQ4
  have N4 := Fr.app N0 N4q
  obtain ⟨fs, hr, hrun, hended, hW, hsame⟩ := X4.leave (v := some (.int (1 : Int32))) (fun h => by rw [Bd.returns] at h; cases h)
  refine ⟨_, _, pre0 _ ?_, hrun, hended, _, _, rfl, ?_, ⟨_, rfl⟩, hW, hsame.mono (by decide) (by decide)⟩
  · show Steps p.tables e below (s₁.setTop (mkF m 0 #[.val (.long q1), .second, .val (.int p2), .val (.int p3), .unset, .unset, .unset, .unset, .unset] [])) _
    refine XS.iloadN X0.here hx rfl (hb hby at_0) rfl ?_
    show Steps p.tables e below (s₁.setTop (mkF m 1 #[.val (.long q1), .second, .val (.int p2), .val (.int p3), .unset, .unset, .unset, .unset, .unset] [(.int p2)])) _
    refine XS.sipush X0.here hx rfl (hb hby at_1) ?_
    show Steps p.tables e below (s₁.setTop (mkF m 4 #[.val (.long q1), .second, .val (.int p2), .val (.int p3), .unset, .unset, .unset, .unset, .unset] [(.int (4095 : Int32)), (.int p2)])) _
    refine XS.iand X0.here hx rfl (hb hby at_4) rfl ?_
    show Steps p.tables e below (s₁.setTop (mkF m 5 #[.val (.long q1), .second, .val (.int p2), .val (.int p3), .unset, .unset, .unset, .unset, .unset] [(.int (p2 &&& (4095 : Int32)))])) _
    refine XS.sipush X0.here hx rfl (hb hby at_5) ?_
    show Steps p.tables e below (s₁.setTop (mkF m 8 #[.val (.long q1), .second, .val (.int p2), .val (.int p3), .unset, .unset, .unset, .unset, .unset] [(.int (2048 : Int32)), (.int (p2 &&& (4095 : Int32)))])) _
    refine XS.isub X0.here hx rfl (hb hby at_8) rfl ?_
    show Steps p.tables e below (s₁.setTop (mkF m 9 #[.val (.long q1), .second, .val (.int p2), .val (.int p3), .unset, .unset, .unset, .unset, .unset] [(.int ((p2 &&& (4095 : Int32)) - (2048 : Int32)))])) _
    refine XS.istore X0.here hx rfl (hb hby at_9) rfl (l' := #[.val (.long q1), .second, .val (.int p2), .val (.int p3), .val (.int ((p2 &&& (4095 : Int32)) - (2048 : Int32))), .unset, .unset, .unset, .unset]) rfl ?_
    show Steps p.tables e below (s₁.setTop (mkF m 11 #[.val (.long q1), .second, .val (.int p2), .val (.int p3), .val (.int ((p2 &&& (4095 : Int32)) - (2048 : Int32))), .unset, .unset, .unset, .unset] [])) _
    rw [hk9]
    show Steps p.tables e below (s₁.setTop (mkF m 11 #[.val (.long q1), .second, .val (.int p2), .val (.int p3), .val (.int kk9), .unset, .unset, .unset, .unset] [])) _
    refine XS.iloadN X0.here hx rfl (hb hby at_11) rfl ?_
    show Steps p.tables e below (s₁.setTop (mkF m 12 #[.val (.long q1), .second, .val (.int p2), .val (.int p3), .val (.int kk9), .unset, .unset, .unset, .unset] [(.int p3)])) _
    refine XS.sipush X0.here hx rfl (hb hby at_12) ?_
    show Steps p.tables e below (s₁.setTop (mkF m 15 #[.val (.long q1), .second, .val (.int p2), .val (.int p3), .val (.int kk9), .unset, .unset, .unset, .unset] [(.int (1023 : Int32)), (.int p3)])) _
    refine XS.iand X0.here hx rfl (hb hby at_15) rfl ?_
    show Steps p.tables e below (s₁.setTop (mkF m 16 #[.val (.long q1), .second, .val (.int p2), .val (.int p3), .val (.int kk9), .unset, .unset, .unset, .unset] [(.int (p3 &&& (1023 : Int32)))])) _
    refine XS.iconst X0.here hx rfl (hb hby at_16) ?_
    show Steps p.tables e below (s₁.setTop (mkF m 17 #[.val (.long q1), .second, .val (.int p2), .val (.int p3), .val (.int kk9), .unset, .unset, .unset, .unset] [(.int (1 : Int32)), (.int (p3 &&& (1023 : Int32)))])) _
    refine XS.iadd X0.here hx rfl (hb hby at_17) rfl ?_
    show Steps p.tables e below (s₁.setTop (mkF m 18 #[.val (.long q1), .second, .val (.int p2), .val (.int p3), .val (.int kk9), .unset, .unset, .unset, .unset] [(.int ((p3 &&& (1023 : Int32)) + (1 : Int32)))])) _
    refine XS.istore X0.here hx rfl (hb hby at_18) rfl (l' := #[.val (.long q1), .second, .val (.int p2), .val (.int p3), .val (.int kk9), .val (.int ((p3 &&& (1023 : Int32)) + (1 : Int32))), .unset, .unset, .unset]) rfl ?_
    show Steps p.tables e below (s₁.setTop (mkF m 20 #[.val (.long q1), .second, .val (.int p2), .val (.int p3), .val (.int kk9), .val (.int ((p3 &&& (1023 : Int32)) + (1 : Int32))), .unset, .unset, .unset] [])) _
    rw [hk18]
    show Steps p.tables e below (s₁.setTop (mkF m 20 #[.val (.long q1), .second, .val (.int p2), .val (.int p3), .val (.int kk9), .val (.int kk18), .unset, .unset, .unset] [])) _
    refine XS.iload X0.here hx rfl (hb hby at_20) rfl ?_
    show Steps p.tables e below (s₁.setTop (mkF m 22 #[.val (.long q1), .second, .val (.int p2), .val (.int p3), .val (.int kk9), .val (.int kk18), .unset, .unset, .unset] [(.int kk9)])) _
    refine XS.i2dS X0.here hx rfl (hb hby at_22) rfl rfl ?_
    show Steps p.tables e below (s₁.setTop (mkF m 23 #[.val (.long q1), .second, .val (.int p2), .val (.int p3), .val (.int kk9), .val (.int kk18), .unset, .unset, .unset] [(.double (FP.i2d kk9))])) _
    refine XS.iload X0.here hx rfl (hb hby at_23) rfl ?_
    show Steps p.tables e below (s₁.setTop (mkF m 25 #[.val (.long q1), .second, .val (.int p2), .val (.int p3), .val (.int kk9), .val (.int kk18), .unset, .unset, .unset] [(.int kk18), (.double (FP.i2d kk9))])) _
    refine XS.i2dS X0.here hx rfl (hb hby at_25) rfl rfl ?_
    show Steps p.tables e below (s₁.setTop (mkF m 26 #[.val (.long q1), .second, .val (.int p2), .val (.int p3), .val (.int kk9), .val (.int kk18), .unset, .unset, .unset] [(.double (FP.i2d kk18)), (.double (FP.i2d kk9))])) _
    refine XS.ddivS X0.here hx rfl (hb hby at_26) rfl hn26 hv26 ?_
    show Steps p.tables e below (s₁.setTop (mkF m 27 #[.val (.long q1), .second, .val (.int p2), .val (.int p3), .val (.int kk9), .val (.int kk18), .unset, .unset, .unset] [(.double r26)])) _
    refine XS.dstore X0.here hx rfl (hb hby at_27) rfl (l' := #[.val (.long q1), .second, .val (.int p2), .val (.int p3), .val (.int kk9), .val (.int kk18), .val (.double r26), .second, .unset]) rfl ?_
    show Steps p.tables e below (s₁.setTop (mkF m 29 #[.val (.long q1), .second, .val (.int p2), .val (.int p3), .val (.int kk9), .val (.int kk18), .val (.double r26), .second, .unset] [])) _
    refine XS.lloadN X0.here hx rfl (hb hby at_29) rfl ?_
    show Steps p.tables e below (s₁.setTop (mkF m 30 #[.val (.long q1), .second, .val (.int p2), .val (.int p3), .val (.int kk9), .val (.int kk18), .val (.double r26), .second, .unset] [(.long q1)])) _
    refine XS.lconst X0.here hx rfl (hb hby at_30) ?_
    show Steps p.tables e below (s₁.setTop (mkF m 31 #[.val (.long q1), .second, .val (.int p2), .val (.int p3), .val (.int kk9), .val (.int kk18), .val (.double r26), .second, .unset] [(.long (1 : Int64)), (.long q1)])) _
    refine XS.lcmp X0.here hx rfl (hb hby at_31) rfl ?_
    show Steps p.tables e below (s₁.setTop (mkF m 32 #[.val (.long q1), .second, .val (.int p2), .val (.int p3), .val (.int kk9), .val (.int kk18), .val (.double r26), .second, .unset] [(.int (lcmpW q1 (1 : Int64)))])) _
    refine XS.ifYes X0.here hx rfl (pc0 := 32) (pc' := 51) rfl (hb hby at_32) rfl ((if0 _ _).trans (tlt hc32).1) (by decide) (by decide) ?_
    show Steps p.tables e below (s₁.setTop (mkF m 51 #[.val (.long q1), .second, .val (.int p2), .val (.int p3), .val (.int kk9), .val (.int kk18), .val (.double r26), .second, .unset] [])) _
    refine XS.iconst X0.here hx rfl (hb hby at_51) ?_
    show Steps p.tables e below (s₁.setTop (mkF m 52 #[.val (.long q1), .second, .val (.int p2), .val (.int p3), .val (.int kk9), .val (.int kk18), .val (.double r26), .second, .unset] [(.int (0 : Int32))])) _
    refine XS.istore X0.here hx rfl (hb hby at_52) rfl (l' := #[.val (.long q1), .second, .val (.int p2), .val (.int p3), .val (.int kk9), .val (.int kk18), .val (.double r26), .second, .val (.int (0 : Int32))]) rfl ?_
    show Steps p.tables e below (s₁.setTop (mkF m 54 #[.val (.long q1), .second, .val (.int p2), .val (.int p3), .val (.int kk9), .val (.int kk18), .val (.double r26), .second, .val (.int (0 : Int32))] [])) _
    refine XS.lloadN X0.here hx rfl (hb hby at_54) rfl ?_
    show Steps p.tables e below (s₁.setTop (mkF m 55 #[.val (.long q1), .second, .val (.int p2), .val (.int p3), .val (.int kk9), .val (.int kk18), .val (.double r26), .second, .val (.int (0 : Int32))] [(.long q1)])) _
    refine XS.dload X0.here hx rfl (hb hby at_55) rfl ?_
    show Steps p.tables e below (s₁.setTop (mkF m 57 #[.val (.long q1), .second, .val (.int p2), .val (.int p3), .val (.int kk9), .val (.int kk18), .val (.double r26), .second, .val (.int (0 : Int32))] [(.double r26), (.long q1)])) _
    refine st4 _ ?_
    show Steps p.tables e below (T4.setTop (mkF m 60 #[.val (.long q1), .second, .val (.int p2), .val (.int p3), .val (.int kk9), .val (.int kk18), .val (.double r26), .second, .val (.int (0 : Int32))] [(.int (F1 q1 r26))])) _
    refine XS.iload X4.here hx rfl (hb hby at_60) rfl ?_
    show Steps p.tables e below (T4.setTop (mkF m 62 #[.val (.long q1), .second, .val (.int p2), .val (.int p3), .val (.int kk9), .val (.int kk18), .val (.double r26), .second, .val (.int (0 : Int32))] [(.int (0 : Int32)), (.int (F1 q1 r26))])) _
    refine XS.icmpNo X4.here hx rfl (hb hby at_62) rfl (teq hq1).2 ?_
    show Steps p.tables e below (T4.setTop (mkF m 65 #[.val (.long q1), .second, .val (.int p2), .val (.int p3), .val (.int kk9), .val (.int kk18), .val (.double r26), .second, .val (.int (0 : Int32))] [])) _
    refine XS.iconst X4.here hx rfl (hb hby at_65) ?_
    show Steps p.tables e below (T4.setTop (mkF m 66 #[.val (.long q1), .second, .val (.int p2), .val (.int p3), .val (.int kk9), .val (.int kk18), .val (.double r26), .second, .val (.int (0 : Int32))] [(.int (1 : Int32))])) _
    refine XS.goto X4.here hx rfl (pc0 := 66) (pc' := 70) rfl (hb hby at_66) (by decide) (by decide) ?_
    show Steps p.tables e below (T4.setTop (mkF m 70 #[.val (.long q1), .second, .val (.int p2), .val (.int p3), .val (.int kk9), .val (.int kk18), .val (.double r26), .second, .val (.int (0 : Int32))] [(.int (1 : Int32))])) _
    exact retN X4 hx (t := .boolean) Bd.returns (by simp) (hb hby at_70) hr
  · show QL n0 _ T4.heap _
    exact ⟨rfl, N4⟩
set_option maxRecDepth 65536 in
set_option maxHeartbeats 40000000 in
theorem rm0_ftf (l : Launch) (Z : State) (a0 : Array Value) (hw : ∀ d ∈ tables_1, d.before a0 Z = true) (ws : List Jvm.Cond) (q1 : Int64) (p2 : Int32) (p3 : Int32) (kk9 : Int32) (kk18 : Int32) (r26 : UInt64) (h0 : Heap) (n0 : Nat) (Z0 : n0 ≤ h0.size) (hk9 : ((p2 &&& (4095 : Int32)) - (2048 : Int32)) = kk9) (hk18 : ((p3 &&& (1023 : Int32)) + (1 : Int32)) = kk18) (hv26 : (FP.ddiv (FP.i2d kk9) (FP.i2d kk18)) = r26) (hn26 : Jvm.Free.Fl.NoNaN64 (FP.ddiv (FP.i2d kk9) (FP.i2d kk18))) (hc32 : ¬ ((lcmpW q1 (1 : Int64)) < (0 : Int32))) (hc37 : ¬ ((0 : Int32) < kk9)) (hq1 : (F1 q1 r26) = (0 : Int32)) :
    MetFree l x (head1 (Jvm.Cond.code x code maxLocals ret :: ws) room_1) (fun a U => a = #[(.long q1), (.int p2), (.int p3)] ∧ Z.Warmed39 U.vm ∧ U.heap = h0) (fun _ _ _ _ _ => True) (fun _ U o U' => ∃ v L, o = .returned v ∧ QL n0 v U'.heap L ∧ FrameEnd U o U' L room_1.cells room_1.slots) := by
  refine MetFree.of_bodySF (plainFor_of_name pn_0) hisR ?_
  intro p e s m args below meth c s₁ Bd hml0 hP hK
  obtain ⟨rfl, hZ, hh⟩ := hP
  have hx := Bd.exec
  have hby := Bd.bytes
  have hml : c.maxLocals = 9 := hml0
  have hown : s.vm.findClass "com/example/echo_bridge/echobridge/membership/FilterTargetIsValidPinLaw" = some m.cls := findClass_of_methodNamed Bd.named
  have hnm := (name_of_methodNamed Bd.named Bd.method).1
  have X0 : Stand p l e room_1 s m #[(.long q1), (.int p2), (.int p3)] below meth c s₁ [] 0 0 := Stand.of_body Bd
  have e0 : s₁.heap = h0 := by rw [← hh, Bd.state]; rfl
  have N0 := Fr.nil n0
  have pre0 : ∀ t, Steps p.tables e below (s₁.setTop (mkF m 0 #[.val (.long q1), .second, .val (.int p2), .val (.int p3), .unset, .unset, .unset, .unset, .unset] [])) t → Steps p.tables e below (s₁.setTop (entryFrame m #[(.long q1), (.int p2), (.int p3)] maxLocals)) t := fun t k => castTop (ef_0 m q1 p2 p3) k
  obtain ⟨_, _, ⟨T4, L4, k4, n4⟩, -, X4, ⟨Lc4, hQ4, l4, y4, z4⟩, st4⟩ := Jvm.LawKit.callS X0 hx (y := (⟨"com/example/echo_bridge/echobridge/membership/FilterTarget", "isValid", "(JD)Z"⟩ : MethodName)) hown (mvT hZ (hw _ (List.mem_of_getElem? (i := 0) rfl))) (mvT hZ (hw _ (List.mem_of_getElem? (i := 1) rfl))) (mvT hZ (hw _ (List.mem_of_getElem? (i := 2) rfl))) (mvT hZ (hw _ (List.mem_of_getElem? (i := 3) rfl))) (by decide) (backOf (W := 0) (rm1 l Z a0 hw [] q1 r26 h0 n0 Z0) hZ (hw _ (List.mem_of_getElem? (i := 3) rfl)) (hw _ (List.mem_of_getElem? (i := 2) rfl)) (by decide) (by decide)) (g := (mkF m 57 #[.val (.long q1), .second, .val (.int p2), .val (.int p3), .val (.int kk9), .val (.int kk18), .val (.double r26), .second, .val (.int (0 : Int32))] [(.double r26), (.long q1)])) rfl (by rw [hml]; rfl) (argsL := [(.long q1), (.double r26)]) (rest := []) (lenOf pd_0_0 rfl) rfl (by show 2 * 0 + _ ≤ _; exact Nat.le_of_eq rfl) (hb hby at_57) (fun _ _ => ⟨rfl, e0, (by decide : 0 + 0 ≤ _), (by decide : 0 + 0 ≤ _)⟩)
  dsimp only [Pt.U, Pt.locs, Pt.cells, Pt.slots] at X4 l4 y4 z4 st4 hQ4
  subst l4 y4 z4
  obtain ⟨rfl, N4q, eh4⟩ := hQ4
  have N4 := Fr.app N0 N4q
  obtain ⟨fs, hr, hrun, hended, hW, hsame⟩ := X4.leave (v := some (.int (1 : Int32))) (fun h => by rw [Bd.returns] at h; cases h)
  refine ⟨_, _, pre0 _ ?_, hrun, hended, _, _, rfl, ?_, ⟨_, rfl⟩, hW, hsame.mono (by decide) (by decide)⟩
  · show Steps p.tables e below (s₁.setTop (mkF m 0 #[.val (.long q1), .second, .val (.int p2), .val (.int p3), .unset, .unset, .unset, .unset, .unset] [])) _
    refine XS.iloadN X0.here hx rfl (hb hby at_0) rfl ?_
    show Steps p.tables e below (s₁.setTop (mkF m 1 #[.val (.long q1), .second, .val (.int p2), .val (.int p3), .unset, .unset, .unset, .unset, .unset] [(.int p2)])) _
    refine XS.sipush X0.here hx rfl (hb hby at_1) ?_
    show Steps p.tables e below (s₁.setTop (mkF m 4 #[.val (.long q1), .second, .val (.int p2), .val (.int p3), .unset, .unset, .unset, .unset, .unset] [(.int (4095 : Int32)), (.int p2)])) _
    refine XS.iand X0.here hx rfl (hb hby at_4) rfl ?_
    show Steps p.tables e below (s₁.setTop (mkF m 5 #[.val (.long q1), .second, .val (.int p2), .val (.int p3), .unset, .unset, .unset, .unset, .unset] [(.int (p2 &&& (4095 : Int32)))])) _
    refine XS.sipush X0.here hx rfl (hb hby at_5) ?_
    show Steps p.tables e below (s₁.setTop (mkF m 8 #[.val (.long q1), .second, .val (.int p2), .val (.int p3), .unset, .unset, .unset, .unset, .unset] [(.int (2048 : Int32)), (.int (p2 &&& (4095 : Int32)))])) _
    refine XS.isub X0.here hx rfl (hb hby at_8) rfl ?_
    show Steps p.tables e below (s₁.setTop (mkF m 9 #[.val (.long q1), .second, .val (.int p2), .val (.int p3), .unset, .unset, .unset, .unset, .unset] [(.int ((p2 &&& (4095 : Int32)) - (2048 : Int32)))])) _
    refine XS.istore X0.here hx rfl (hb hby at_9) rfl (l' := #[.val (.long q1), .second, .val (.int p2), .val (.int p3), .val (.int ((p2 &&& (4095 : Int32)) - (2048 : Int32))), .unset, .unset, .unset, .unset]) rfl ?_
    show Steps p.tables e below (s₁.setTop (mkF m 11 #[.val (.long q1), .second, .val (.int p2), .val (.int p3), .val (.int ((p2 &&& (4095 : Int32)) - (2048 : Int32))), .unset, .unset, .unset, .unset] [])) _
    rw [hk9]
    show Steps p.tables e below (s₁.setTop (mkF m 11 #[.val (.long q1), .second, .val (.int p2), .val (.int p3), .val (.int kk9), .unset, .unset, .unset, .unset] [])) _
    refine XS.iloadN X0.here hx rfl (hb hby at_11) rfl ?_
    show Steps p.tables e below (s₁.setTop (mkF m 12 #[.val (.long q1), .second, .val (.int p2), .val (.int p3), .val (.int kk9), .unset, .unset, .unset, .unset] [(.int p3)])) _
    refine XS.sipush X0.here hx rfl (hb hby at_12) ?_
    show Steps p.tables e below (s₁.setTop (mkF m 15 #[.val (.long q1), .second, .val (.int p2), .val (.int p3), .val (.int kk9), .unset, .unset, .unset, .unset] [(.int (1023 : Int32)), (.int p3)])) _
    refine XS.iand X0.here hx rfl (hb hby at_15) rfl ?_
    show Steps p.tables e below (s₁.setTop (mkF m 16 #[.val (.long q1), .second, .val (.int p2), .val (.int p3), .val (.int kk9), .unset, .unset, .unset, .unset] [(.int (p3 &&& (1023 : Int32)))])) _
    refine XS.iconst X0.here hx rfl (hb hby at_16) ?_
    show Steps p.tables e below (s₁.setTop (mkF m 17 #[.val (.long q1), .second, .val (.int p2), .val (.int p3), .val (.int kk9), .unset, .unset, .unset, .unset] [(.int (1 : Int32)), (.int (p3 &&& (1023 : Int32)))])) _
    refine XS.iadd X0.here hx rfl (hb hby at_17) rfl ?_
    show Steps p.tables e below (s₁.setTop (mkF m 18 #[.val (.long q1), .second, .val (.int p2), .val (.int p3), .val (.int kk9), .unset, .unset, .unset, .unset] [(.int ((p3 &&& (1023 : Int32)) + (1 : Int32)))])) _
    refine XS.istore X0.here hx rfl (hb hby at_18) rfl (l' := #[.val (.long q1), .second, .val (.int p2), .val (.int p3), .val (.int kk9), .val (.int ((p3 &&& (1023 : Int32)) + (1 : Int32))), .unset, .unset, .unset]) rfl ?_
    show Steps p.tables e below (s₁.setTop (mkF m 20 #[.val (.long q1), .second, .val (.int p2), .val (.int p3), .val (.int kk9), .val (.int ((p3 &&& (1023 : Int32)) + (1 : Int32))), .unset, .unset, .unset] [])) _
    rw [hk18]
    show Steps p.tables e below (s₁.setTop (mkF m 20 #[.val (.long q1), .second, .val (.int p2), .val (.int p3), .val (.int kk9), .val (.int kk18), .unset, .unset, .unset] [])) _
    refine XS.iload X0.here hx rfl (hb hby at_20) rfl ?_
    show Steps p.tables e below (s₁.setTop (mkF m 22 #[.val (.long q1), .second, .val (.int p2), .val (.int p3), .val (.int kk9), .val (.int kk18), .unset, .unset, .unset] [(.int kk9)])) _
    refine XS.i2dS X0.here hx rfl (hb hby at_22) rfl rfl ?_
    show Steps p.tables e below (s₁.setTop (mkF m 23 #[.val (.long q1), .second, .val (.int p2), .val (.int p3), .val (.int kk9), .val (.int kk18), .unset, .unset, .unset] [(.double (FP.i2d kk9))])) _
    refine XS.iload X0.here hx rfl (hb hby at_23) rfl ?_
    show Steps p.tables e below (s₁.setTop (mkF m 25 #[.val (.long q1), .second, .val (.int p2), .val (.int p3), .val (.int kk9), .val (.int kk18), .unset, .unset, .unset] [(.int kk18), (.double (FP.i2d kk9))])) _
    refine XS.i2dS X0.here hx rfl (hb hby at_25) rfl rfl ?_
    show Steps p.tables e below (s₁.setTop (mkF m 26 #[.val (.long q1), .second, .val (.int p2), .val (.int p3), .val (.int kk9), .val (.int kk18), .unset, .unset, .unset] [(.double (FP.i2d kk18)), (.double (FP.i2d kk9))])) _
    refine XS.ddivS X0.here hx rfl (hb hby at_26) rfl hn26 hv26 ?_
    show Steps p.tables e below (s₁.setTop (mkF m 27 #[.val (.long q1), .second, .val (.int p2), .val (.int p3), .val (.int kk9), .val (.int kk18), .unset, .unset, .unset] [(.double r26)])) _
    refine XS.dstore X0.here hx rfl (hb hby at_27) rfl (l' := #[.val (.long q1), .second, .val (.int p2), .val (.int p3), .val (.int kk9), .val (.int kk18), .val (.double r26), .second, .unset]) rfl ?_
    show Steps p.tables e below (s₁.setTop (mkF m 29 #[.val (.long q1), .second, .val (.int p2), .val (.int p3), .val (.int kk9), .val (.int kk18), .val (.double r26), .second, .unset] [])) _
    refine XS.lloadN X0.here hx rfl (hb hby at_29) rfl ?_
    show Steps p.tables e below (s₁.setTop (mkF m 30 #[.val (.long q1), .second, .val (.int p2), .val (.int p3), .val (.int kk9), .val (.int kk18), .val (.double r26), .second, .unset] [(.long q1)])) _
    refine XS.lconst X0.here hx rfl (hb hby at_30) ?_
    show Steps p.tables e below (s₁.setTop (mkF m 31 #[.val (.long q1), .second, .val (.int p2), .val (.int p3), .val (.int kk9), .val (.int kk18), .val (.double r26), .second, .unset] [(.long (1 : Int64)), (.long q1)])) _
    refine XS.lcmp X0.here hx rfl (hb hby at_31) rfl ?_
    show Steps p.tables e below (s₁.setTop (mkF m 32 #[.val (.long q1), .second, .val (.int p2), .val (.int p3), .val (.int kk9), .val (.int kk18), .val (.double r26), .second, .unset] [(.int (lcmpW q1 (1 : Int64)))])) _
    refine XS.ifNo X0.here hx rfl (hb hby at_32) rfl ((if0 _ _).trans (flt hc32).1) ?_
    show Steps p.tables e below (s₁.setTop (mkF m 35 #[.val (.long q1), .second, .val (.int p2), .val (.int p3), .val (.int kk9), .val (.int kk18), .val (.double r26), .second, .unset] [])) _
    refine XS.iload X0.here hx rfl (hb hby at_35) rfl ?_
    show Steps p.tables e below (s₁.setTop (mkF m 37 #[.val (.long q1), .second, .val (.int p2), .val (.int p3), .val (.int kk9), .val (.int kk18), .val (.double r26), .second, .unset] [(.int kk9)])) _
    refine XS.ifYes X0.here hx rfl (pc0 := 37) (pc' := 51) rfl (hb hby at_37) rfl ((if0 _ _).trans (flt hc37).2.2.2) (by decide) (by decide) ?_
    show Steps p.tables e below (s₁.setTop (mkF m 51 #[.val (.long q1), .second, .val (.int p2), .val (.int p3), .val (.int kk9), .val (.int kk18), .val (.double r26), .second, .unset] [])) _
    refine XS.iconst X0.here hx rfl (hb hby at_51) ?_
    show Steps p.tables e below (s₁.setTop (mkF m 52 #[.val (.long q1), .second, .val (.int p2), .val (.int p3), .val (.int kk9), .val (.int kk18), .val (.double r26), .second, .unset] [(.int (0 : Int32))])) _
    refine XS.istore X0.here hx rfl (hb hby at_52) rfl (l' := #[.val (.long q1), .second, .val (.int p2), .val (.int p3), .val (.int kk9), .val (.int kk18), .val (.double r26), .second, .val (.int (0 : Int32))]) rfl ?_
    show Steps p.tables e below (s₁.setTop (mkF m 54 #[.val (.long q1), .second, .val (.int p2), .val (.int p3), .val (.int kk9), .val (.int kk18), .val (.double r26), .second, .val (.int (0 : Int32))] [])) _
    refine XS.lloadN X0.here hx rfl (hb hby at_54) rfl ?_
    show Steps p.tables e below (s₁.setTop (mkF m 55 #[.val (.long q1), .second, .val (.int p2), .val (.int p3), .val (.int kk9), .val (.int kk18), .val (.double r26), .second, .val (.int (0 : Int32))] [(.long q1)])) _
    refine XS.dload X0.here hx rfl (hb hby at_55) rfl ?_
    show Steps p.tables e below (s₁.setTop (mkF m 57 #[.val (.long q1), .second, .val (.int p2), .val (.int p3), .val (.int kk9), .val (.int kk18), .val (.double r26), .second, .val (.int (0 : Int32))] [(.double r26), (.long q1)])) _
    refine st4 _ ?_
    show Steps p.tables e below (T4.setTop (mkF m 60 #[.val (.long q1), .second, .val (.int p2), .val (.int p3), .val (.int kk9), .val (.int kk18), .val (.double r26), .second, .val (.int (0 : Int32))] [(.int (F1 q1 r26))])) _
    refine XS.iload X4.here hx rfl (hb hby at_60) rfl ?_
    show Steps p.tables e below (T4.setTop (mkF m 62 #[.val (.long q1), .second, .val (.int p2), .val (.int p3), .val (.int kk9), .val (.int kk18), .val (.double r26), .second, .val (.int (0 : Int32))] [(.int (0 : Int32)), (.int (F1 q1 r26))])) _
    refine XS.icmpNo X4.here hx rfl (hb hby at_62) rfl (teq hq1).2 ?_
    show Steps p.tables e below (T4.setTop (mkF m 65 #[.val (.long q1), .second, .val (.int p2), .val (.int p3), .val (.int kk9), .val (.int kk18), .val (.double r26), .second, .val (.int (0 : Int32))] [])) _
    refine XS.iconst X4.here hx rfl (hb hby at_65) ?_
    show Steps p.tables e below (T4.setTop (mkF m 66 #[.val (.long q1), .second, .val (.int p2), .val (.int p3), .val (.int kk9), .val (.int kk18), .val (.double r26), .second, .val (.int (0 : Int32))] [(.int (1 : Int32))])) _
    refine XS.goto X4.here hx rfl (pc0 := 66) (pc' := 70) rfl (hb hby at_66) (by decide) (by decide) ?_
    show Steps p.tables e below (T4.setTop (mkF m 70 #[.val (.long q1), .second, .val (.int p2), .val (.int p3), .val (.int kk9), .val (.int kk18), .val (.double r26), .second, .val (.int (0 : Int32))] [(.int (1 : Int32))])) _
    exact retN X4 hx (t := .boolean) Bd.returns (by simp) (hb hby at_70) hr
  · show QL n0 _ T4.heap _
    exact ⟨rfl, N4⟩
set_option maxRecDepth 65536 in
set_option maxHeartbeats 40000000 in
theorem rm0_fftf (l : Launch) (Z : State) (a0 : Array Value) (hw : ∀ d ∈ tables_1, d.before a0 Z = true) (ws : List Jvm.Cond) (q1 : Int64) (p2 : Int32) (p3 : Int32) (kk9 : Int32) (kk18 : Int32) (r26 : UInt64) (h0 : Heap) (n0 : Nat) (Z0 : n0 ≤ h0.size) (hk9 : ((p2 &&& (4095 : Int32)) - (2048 : Int32)) = kk9) (hk18 : ((p3 &&& (1023 : Int32)) + (1 : Int32)) = kk18) (hv26 : (FP.ddiv (FP.i2d kk9) (FP.i2d kk18)) = r26) (hn26 : Jvm.Free.Fl.NoNaN64 (FP.ddiv (FP.i2d kk9) (FP.i2d kk18))) (hc32 : ¬ ((lcmpW q1 (1 : Int64)) < (0 : Int32))) (hc37 : (0 : Int32) < kk9) (hc44 : ¬ (kk9 < kk18)) (hq1 : (F1 q1 r26) = (0 : Int32)) :
    MetFree l x (head1 (Jvm.Cond.code x code maxLocals ret :: ws) room_1) (fun a U => a = #[(.long q1), (.int p2), (.int p3)] ∧ Z.Warmed39 U.vm ∧ U.heap = h0) (fun _ _ _ _ _ => True) (fun _ U o U' => ∃ v L, o = .returned v ∧ QL n0 v U'.heap L ∧ FrameEnd U o U' L room_1.cells room_1.slots) := by
  refine MetFree.of_bodySF (plainFor_of_name pn_0) hisR ?_
  intro p e s m args below meth c s₁ Bd hml0 hP hK
  obtain ⟨rfl, hZ, hh⟩ := hP
  have hx := Bd.exec
  have hby := Bd.bytes
  have hml : c.maxLocals = 9 := hml0
  have hown : s.vm.findClass "com/example/echo_bridge/echobridge/membership/FilterTargetIsValidPinLaw" = some m.cls := findClass_of_methodNamed Bd.named
  have hnm := (name_of_methodNamed Bd.named Bd.method).1
  have X0 : Stand p l e room_1 s m #[(.long q1), (.int p2), (.int p3)] below meth c s₁ [] 0 0 := Stand.of_body Bd
  have e0 : s₁.heap = h0 := by rw [← hh, Bd.state]; rfl
  have N0 := Fr.nil n0
  have pre0 : ∀ t, Steps p.tables e below (s₁.setTop (mkF m 0 #[.val (.long q1), .second, .val (.int p2), .val (.int p3), .unset, .unset, .unset, .unset, .unset] [])) t → Steps p.tables e below (s₁.setTop (entryFrame m #[(.long q1), (.int p2), (.int p3)] maxLocals)) t := fun t k => castTop (ef_0 m q1 p2 p3) k
  obtain ⟨_, _, ⟨T4, L4, k4, n4⟩, -, X4, ⟨Lc4, hQ4, l4, y4, z4⟩, st4⟩ := Jvm.LawKit.callS X0 hx (y := (⟨"com/example/echo_bridge/echobridge/membership/FilterTarget", "isValid", "(JD)Z"⟩ : MethodName)) hown (mvT hZ (hw _ (List.mem_of_getElem? (i := 0) rfl))) (mvT hZ (hw _ (List.mem_of_getElem? (i := 1) rfl))) (mvT hZ (hw _ (List.mem_of_getElem? (i := 2) rfl))) (mvT hZ (hw _ (List.mem_of_getElem? (i := 3) rfl))) (by decide) (backOf (W := 0) (rm1 l Z a0 hw [] q1 r26 h0 n0 Z0) hZ (hw _ (List.mem_of_getElem? (i := 3) rfl)) (hw _ (List.mem_of_getElem? (i := 2) rfl)) (by decide) (by decide)) (g := (mkF m 57 #[.val (.long q1), .second, .val (.int p2), .val (.int p3), .val (.int kk9), .val (.int kk18), .val (.double r26), .second, .val (.int (0 : Int32))] [(.double r26), (.long q1)])) rfl (by rw [hml]; rfl) (argsL := [(.long q1), (.double r26)]) (rest := []) (lenOf pd_0_0 rfl) rfl (by show 2 * 0 + _ ≤ _; exact Nat.le_of_eq rfl) (hb hby at_57) (fun _ _ => ⟨rfl, e0, (by decide : 0 + 0 ≤ _), (by decide : 0 + 0 ≤ _)⟩)
  dsimp only [Pt.U, Pt.locs, Pt.cells, Pt.slots] at X4 l4 y4 z4 st4 hQ4
  subst l4 y4 z4
  obtain ⟨rfl, N4q, eh4⟩ := hQ4
  have N4 := Fr.app N0 N4q
  obtain ⟨fs, hr, hrun, hended, hW, hsame⟩ := X4.leave (v := some (.int (1 : Int32))) (fun h => by rw [Bd.returns] at h; cases h)
  refine ⟨_, _, pre0 _ ?_, hrun, hended, _, _, rfl, ?_, ⟨_, rfl⟩, hW, hsame.mono (by decide) (by decide)⟩
  · show Steps p.tables e below (s₁.setTop (mkF m 0 #[.val (.long q1), .second, .val (.int p2), .val (.int p3), .unset, .unset, .unset, .unset, .unset] [])) _
    refine XS.iloadN X0.here hx rfl (hb hby at_0) rfl ?_
    show Steps p.tables e below (s₁.setTop (mkF m 1 #[.val (.long q1), .second, .val (.int p2), .val (.int p3), .unset, .unset, .unset, .unset, .unset] [(.int p2)])) _
    refine XS.sipush X0.here hx rfl (hb hby at_1) ?_
    show Steps p.tables e below (s₁.setTop (mkF m 4 #[.val (.long q1), .second, .val (.int p2), .val (.int p3), .unset, .unset, .unset, .unset, .unset] [(.int (4095 : Int32)), (.int p2)])) _
    refine XS.iand X0.here hx rfl (hb hby at_4) rfl ?_
    show Steps p.tables e below (s₁.setTop (mkF m 5 #[.val (.long q1), .second, .val (.int p2), .val (.int p3), .unset, .unset, .unset, .unset, .unset] [(.int (p2 &&& (4095 : Int32)))])) _
    refine XS.sipush X0.here hx rfl (hb hby at_5) ?_
    show Steps p.tables e below (s₁.setTop (mkF m 8 #[.val (.long q1), .second, .val (.int p2), .val (.int p3), .unset, .unset, .unset, .unset, .unset] [(.int (2048 : Int32)), (.int (p2 &&& (4095 : Int32)))])) _
    refine XS.isub X0.here hx rfl (hb hby at_8) rfl ?_
    show Steps p.tables e below (s₁.setTop (mkF m 9 #[.val (.long q1), .second, .val (.int p2), .val (.int p3), .unset, .unset, .unset, .unset, .unset] [(.int ((p2 &&& (4095 : Int32)) - (2048 : Int32)))])) _
    refine XS.istore X0.here hx rfl (hb hby at_9) rfl (l' := #[.val (.long q1), .second, .val (.int p2), .val (.int p3), .val (.int ((p2 &&& (4095 : Int32)) - (2048 : Int32))), .unset, .unset, .unset, .unset]) rfl ?_
    show Steps p.tables e below (s₁.setTop (mkF m 11 #[.val (.long q1), .second, .val (.int p2), .val (.int p3), .val (.int ((p2 &&& (4095 : Int32)) - (2048 : Int32))), .unset, .unset, .unset, .unset] [])) _
    rw [hk9]
    show Steps p.tables e below (s₁.setTop (mkF m 11 #[.val (.long q1), .second, .val (.int p2), .val (.int p3), .val (.int kk9), .unset, .unset, .unset, .unset] [])) _
    refine XS.iloadN X0.here hx rfl (hb hby at_11) rfl ?_
    show Steps p.tables e below (s₁.setTop (mkF m 12 #[.val (.long q1), .second, .val (.int p2), .val (.int p3), .val (.int kk9), .unset, .unset, .unset, .unset] [(.int p3)])) _
    refine XS.sipush X0.here hx rfl (hb hby at_12) ?_
    show Steps p.tables e below (s₁.setTop (mkF m 15 #[.val (.long q1), .second, .val (.int p2), .val (.int p3), .val (.int kk9), .unset, .unset, .unset, .unset] [(.int (1023 : Int32)), (.int p3)])) _
    refine XS.iand X0.here hx rfl (hb hby at_15) rfl ?_
    show Steps p.tables e below (s₁.setTop (mkF m 16 #[.val (.long q1), .second, .val (.int p2), .val (.int p3), .val (.int kk9), .unset, .unset, .unset, .unset] [(.int (p3 &&& (1023 : Int32)))])) _
    refine XS.iconst X0.here hx rfl (hb hby at_16) ?_
    show Steps p.tables e below (s₁.setTop (mkF m 17 #[.val (.long q1), .second, .val (.int p2), .val (.int p3), .val (.int kk9), .unset, .unset, .unset, .unset] [(.int (1 : Int32)), (.int (p3 &&& (1023 : Int32)))])) _
    refine XS.iadd X0.here hx rfl (hb hby at_17) rfl ?_
    show Steps p.tables e below (s₁.setTop (mkF m 18 #[.val (.long q1), .second, .val (.int p2), .val (.int p3), .val (.int kk9), .unset, .unset, .unset, .unset] [(.int ((p3 &&& (1023 : Int32)) + (1 : Int32)))])) _
    refine XS.istore X0.here hx rfl (hb hby at_18) rfl (l' := #[.val (.long q1), .second, .val (.int p2), .val (.int p3), .val (.int kk9), .val (.int ((p3 &&& (1023 : Int32)) + (1 : Int32))), .unset, .unset, .unset]) rfl ?_
    show Steps p.tables e below (s₁.setTop (mkF m 20 #[.val (.long q1), .second, .val (.int p2), .val (.int p3), .val (.int kk9), .val (.int ((p3 &&& (1023 : Int32)) + (1 : Int32))), .unset, .unset, .unset] [])) _
    rw [hk18]
    show Steps p.tables e below (s₁.setTop (mkF m 20 #[.val (.long q1), .second, .val (.int p2), .val (.int p3), .val (.int kk9), .val (.int kk18), .unset, .unset, .unset] [])) _
    refine XS.iload X0.here hx rfl (hb hby at_20) rfl ?_
    show Steps p.tables e below (s₁.setTop (mkF m 22 #[.val (.long q1), .second, .val (.int p2), .val (.int p3), .val (.int kk9), .val (.int kk18), .unset, .unset, .unset] [(.int kk9)])) _
    refine XS.i2dS X0.here hx rfl (hb hby at_22) rfl rfl ?_
    show Steps p.tables e below (s₁.setTop (mkF m 23 #[.val (.long q1), .second, .val (.int p2), .val (.int p3), .val (.int kk9), .val (.int kk18), .unset, .unset, .unset] [(.double (FP.i2d kk9))])) _
    refine XS.iload X0.here hx rfl (hb hby at_23) rfl ?_
    show Steps p.tables e below (s₁.setTop (mkF m 25 #[.val (.long q1), .second, .val (.int p2), .val (.int p3), .val (.int kk9), .val (.int kk18), .unset, .unset, .unset] [(.int kk18), (.double (FP.i2d kk9))])) _
    refine XS.i2dS X0.here hx rfl (hb hby at_25) rfl rfl ?_
    show Steps p.tables e below (s₁.setTop (mkF m 26 #[.val (.long q1), .second, .val (.int p2), .val (.int p3), .val (.int kk9), .val (.int kk18), .unset, .unset, .unset] [(.double (FP.i2d kk18)), (.double (FP.i2d kk9))])) _
    refine XS.ddivS X0.here hx rfl (hb hby at_26) rfl hn26 hv26 ?_
    show Steps p.tables e below (s₁.setTop (mkF m 27 #[.val (.long q1), .second, .val (.int p2), .val (.int p3), .val (.int kk9), .val (.int kk18), .unset, .unset, .unset] [(.double r26)])) _
    refine XS.dstore X0.here hx rfl (hb hby at_27) rfl (l' := #[.val (.long q1), .second, .val (.int p2), .val (.int p3), .val (.int kk9), .val (.int kk18), .val (.double r26), .second, .unset]) rfl ?_
    show Steps p.tables e below (s₁.setTop (mkF m 29 #[.val (.long q1), .second, .val (.int p2), .val (.int p3), .val (.int kk9), .val (.int kk18), .val (.double r26), .second, .unset] [])) _
    refine XS.lloadN X0.here hx rfl (hb hby at_29) rfl ?_
    show Steps p.tables e below (s₁.setTop (mkF m 30 #[.val (.long q1), .second, .val (.int p2), .val (.int p3), .val (.int kk9), .val (.int kk18), .val (.double r26), .second, .unset] [(.long q1)])) _
    refine XS.lconst X0.here hx rfl (hb hby at_30) ?_
    show Steps p.tables e below (s₁.setTop (mkF m 31 #[.val (.long q1), .second, .val (.int p2), .val (.int p3), .val (.int kk9), .val (.int kk18), .val (.double r26), .second, .unset] [(.long (1 : Int64)), (.long q1)])) _
    refine XS.lcmp X0.here hx rfl (hb hby at_31) rfl ?_
    show Steps p.tables e below (s₁.setTop (mkF m 32 #[.val (.long q1), .second, .val (.int p2), .val (.int p3), .val (.int kk9), .val (.int kk18), .val (.double r26), .second, .unset] [(.int (lcmpW q1 (1 : Int64)))])) _
    refine XS.ifNo X0.here hx rfl (hb hby at_32) rfl ((if0 _ _).trans (flt hc32).1) ?_
    show Steps p.tables e below (s₁.setTop (mkF m 35 #[.val (.long q1), .second, .val (.int p2), .val (.int p3), .val (.int kk9), .val (.int kk18), .val (.double r26), .second, .unset] [])) _
    refine XS.iload X0.here hx rfl (hb hby at_35) rfl ?_
    show Steps p.tables e below (s₁.setTop (mkF m 37 #[.val (.long q1), .second, .val (.int p2), .val (.int p3), .val (.int kk9), .val (.int kk18), .val (.double r26), .second, .unset] [(.int kk9)])) _
    refine XS.ifNo X0.here hx rfl (hb hby at_37) rfl ((if0 _ _).trans (tlt hc37).2.2.2) ?_
    show Steps p.tables e below (s₁.setTop (mkF m 40 #[.val (.long q1), .second, .val (.int p2), .val (.int p3), .val (.int kk9), .val (.int kk18), .val (.double r26), .second, .unset] [])) _
    refine XS.iload X0.here hx rfl (hb hby at_40) rfl ?_
    show Steps p.tables e below (s₁.setTop (mkF m 42 #[.val (.long q1), .second, .val (.int p2), .val (.int p3), .val (.int kk9), .val (.int kk18), .val (.double r26), .second, .unset] [(.int kk9)])) _
    refine XS.iload X0.here hx rfl (hb hby at_42) rfl ?_
    show Steps p.tables e below (s₁.setTop (mkF m 44 #[.val (.long q1), .second, .val (.int p2), .val (.int p3), .val (.int kk9), .val (.int kk18), .val (.double r26), .second, .unset] [(.int kk18), (.int kk9)])) _
    refine XS.icmpYes X0.here hx rfl (pc0 := 44) (pc' := 51) rfl (hb hby at_44) rfl (flt hc44).2.1 (by decide) (by decide) ?_
    show Steps p.tables e below (s₁.setTop (mkF m 51 #[.val (.long q1), .second, .val (.int p2), .val (.int p3), .val (.int kk9), .val (.int kk18), .val (.double r26), .second, .unset] [])) _
    refine XS.iconst X0.here hx rfl (hb hby at_51) ?_
    show Steps p.tables e below (s₁.setTop (mkF m 52 #[.val (.long q1), .second, .val (.int p2), .val (.int p3), .val (.int kk9), .val (.int kk18), .val (.double r26), .second, .unset] [(.int (0 : Int32))])) _
    refine XS.istore X0.here hx rfl (hb hby at_52) rfl (l' := #[.val (.long q1), .second, .val (.int p2), .val (.int p3), .val (.int kk9), .val (.int kk18), .val (.double r26), .second, .val (.int (0 : Int32))]) rfl ?_
    show Steps p.tables e below (s₁.setTop (mkF m 54 #[.val (.long q1), .second, .val (.int p2), .val (.int p3), .val (.int kk9), .val (.int kk18), .val (.double r26), .second, .val (.int (0 : Int32))] [])) _
    refine XS.lloadN X0.here hx rfl (hb hby at_54) rfl ?_
    show Steps p.tables e below (s₁.setTop (mkF m 55 #[.val (.long q1), .second, .val (.int p2), .val (.int p3), .val (.int kk9), .val (.int kk18), .val (.double r26), .second, .val (.int (0 : Int32))] [(.long q1)])) _
    refine XS.dload X0.here hx rfl (hb hby at_55) rfl ?_
    show Steps p.tables e below (s₁.setTop (mkF m 57 #[.val (.long q1), .second, .val (.int p2), .val (.int p3), .val (.int kk9), .val (.int kk18), .val (.double r26), .second, .val (.int (0 : Int32))] [(.double r26), (.long q1)])) _
    refine st4 _ ?_
    show Steps p.tables e below (T4.setTop (mkF m 60 #[.val (.long q1), .second, .val (.int p2), .val (.int p3), .val (.int kk9), .val (.int kk18), .val (.double r26), .second, .val (.int (0 : Int32))] [(.int (F1 q1 r26))])) _
    refine XS.iload X4.here hx rfl (hb hby at_60) rfl ?_
    show Steps p.tables e below (T4.setTop (mkF m 62 #[.val (.long q1), .second, .val (.int p2), .val (.int p3), .val (.int kk9), .val (.int kk18), .val (.double r26), .second, .val (.int (0 : Int32))] [(.int (0 : Int32)), (.int (F1 q1 r26))])) _
    refine XS.icmpNo X4.here hx rfl (hb hby at_62) rfl (teq hq1).2 ?_
    show Steps p.tables e below (T4.setTop (mkF m 65 #[.val (.long q1), .second, .val (.int p2), .val (.int p3), .val (.int kk9), .val (.int kk18), .val (.double r26), .second, .val (.int (0 : Int32))] [])) _
    refine XS.iconst X4.here hx rfl (hb hby at_65) ?_
    show Steps p.tables e below (T4.setTop (mkF m 66 #[.val (.long q1), .second, .val (.int p2), .val (.int p3), .val (.int kk9), .val (.int kk18), .val (.double r26), .second, .val (.int (0 : Int32))] [(.int (1 : Int32))])) _
    refine XS.goto X4.here hx rfl (pc0 := 66) (pc' := 70) rfl (hb hby at_66) (by decide) (by decide) ?_
    show Steps p.tables e below (T4.setTop (mkF m 70 #[.val (.long q1), .second, .val (.int p2), .val (.int p3), .val (.int kk9), .val (.int kk18), .val (.double r26), .second, .val (.int (0 : Int32))] [(.int (1 : Int32))])) _
    exact retN X4 hx (t := .boolean) Bd.returns (by simp) (hb hby at_70) hr
  · show QL n0 _ T4.heap _
    exact ⟨rfl, N4⟩
set_option maxRecDepth 65536 in
set_option maxHeartbeats 40000000 in
theorem rm0_ffff (l : Launch) (Z : State) (a0 : Array Value) (hw : ∀ d ∈ tables_1, d.before a0 Z = true) (ws : List Jvm.Cond) (q1 : Int64) (p2 : Int32) (p3 : Int32) (kk9 : Int32) (kk18 : Int32) (r26 : UInt64) (h0 : Heap) (n0 : Nat) (Z0 : n0 ≤ h0.size) (hk9 : ((p2 &&& (4095 : Int32)) - (2048 : Int32)) = kk9) (hk18 : ((p3 &&& (1023 : Int32)) + (1 : Int32)) = kk18) (hv26 : (FP.ddiv (FP.i2d kk9) (FP.i2d kk18)) = r26) (hn26 : Jvm.Free.Fl.NoNaN64 (FP.ddiv (FP.i2d kk9) (FP.i2d kk18))) (hc32 : ¬ ((lcmpW q1 (1 : Int64)) < (0 : Int32))) (hc37 : (0 : Int32) < kk9) (hc44 : kk9 < kk18) (hq1 : (F1 q1 r26) = (1 : Int32)) :
    MetFree l x (head1 (Jvm.Cond.code x code maxLocals ret :: ws) room_1) (fun a U => a = #[(.long q1), (.int p2), (.int p3)] ∧ Z.Warmed39 U.vm ∧ U.heap = h0) (fun _ _ _ _ _ => True) (fun _ U o U' => ∃ v L, o = .returned v ∧ QL n0 v U'.heap L ∧ FrameEnd U o U' L room_1.cells room_1.slots) := by
  refine MetFree.of_bodySF (plainFor_of_name pn_0) hisR ?_
  intro p e s m args below meth c s₁ Bd hml0 hP hK
  obtain ⟨rfl, hZ, hh⟩ := hP
  have hx := Bd.exec
  have hby := Bd.bytes
  have hml : c.maxLocals = 9 := hml0
  have hown : s.vm.findClass "com/example/echo_bridge/echobridge/membership/FilterTargetIsValidPinLaw" = some m.cls := findClass_of_methodNamed Bd.named
  have hnm := (name_of_methodNamed Bd.named Bd.method).1
  have X0 : Stand p l e room_1 s m #[(.long q1), (.int p2), (.int p3)] below meth c s₁ [] 0 0 := Stand.of_body Bd
  have e0 : s₁.heap = h0 := by rw [← hh, Bd.state]; rfl
  have N0 := Fr.nil n0
  have pre0 : ∀ t, Steps p.tables e below (s₁.setTop (mkF m 0 #[.val (.long q1), .second, .val (.int p2), .val (.int p3), .unset, .unset, .unset, .unset, .unset] [])) t → Steps p.tables e below (s₁.setTop (entryFrame m #[(.long q1), (.int p2), (.int p3)] maxLocals)) t := fun t k => castTop (ef_0 m q1 p2 p3) k
  obtain ⟨_, _, ⟨T4, L4, k4, n4⟩, -, X4, ⟨Lc4, hQ4, l4, y4, z4⟩, st4⟩ := Jvm.LawKit.callS X0 hx (y := (⟨"com/example/echo_bridge/echobridge/membership/FilterTarget", "isValid", "(JD)Z"⟩ : MethodName)) hown (mvT hZ (hw _ (List.mem_of_getElem? (i := 0) rfl))) (mvT hZ (hw _ (List.mem_of_getElem? (i := 1) rfl))) (mvT hZ (hw _ (List.mem_of_getElem? (i := 2) rfl))) (mvT hZ (hw _ (List.mem_of_getElem? (i := 3) rfl))) (by decide) (backOf (W := 0) (rm1 l Z a0 hw [] q1 r26 h0 n0 Z0) hZ (hw _ (List.mem_of_getElem? (i := 3) rfl)) (hw _ (List.mem_of_getElem? (i := 2) rfl)) (by decide) (by decide)) (g := (mkF m 57 #[.val (.long q1), .second, .val (.int p2), .val (.int p3), .val (.int kk9), .val (.int kk18), .val (.double r26), .second, .val (.int (1 : Int32))] [(.double r26), (.long q1)])) rfl (by rw [hml]; rfl) (argsL := [(.long q1), (.double r26)]) (rest := []) (lenOf pd_0_0 rfl) rfl (by show 2 * 0 + _ ≤ _; exact Nat.le_of_eq rfl) (hb hby at_57) (fun _ _ => ⟨rfl, e0, (by decide : 0 + 0 ≤ _), (by decide : 0 + 0 ≤ _)⟩)
  dsimp only [Pt.U, Pt.locs, Pt.cells, Pt.slots] at X4 l4 y4 z4 st4 hQ4
  subst l4 y4 z4
  obtain ⟨rfl, N4q, eh4⟩ := hQ4
  have N4 := Fr.app N0 N4q
  obtain ⟨fs, hr, hrun, hended, hW, hsame⟩ := X4.leave (v := some (.int (1 : Int32))) (fun h => by rw [Bd.returns] at h; cases h)
  refine ⟨_, _, pre0 _ ?_, hrun, hended, _, _, rfl, ?_, ⟨_, rfl⟩, hW, hsame.mono (by decide) (by decide)⟩
  · show Steps p.tables e below (s₁.setTop (mkF m 0 #[.val (.long q1), .second, .val (.int p2), .val (.int p3), .unset, .unset, .unset, .unset, .unset] [])) _
    refine XS.iloadN X0.here hx rfl (hb hby at_0) rfl ?_
    show Steps p.tables e below (s₁.setTop (mkF m 1 #[.val (.long q1), .second, .val (.int p2), .val (.int p3), .unset, .unset, .unset, .unset, .unset] [(.int p2)])) _
    refine XS.sipush X0.here hx rfl (hb hby at_1) ?_
    show Steps p.tables e below (s₁.setTop (mkF m 4 #[.val (.long q1), .second, .val (.int p2), .val (.int p3), .unset, .unset, .unset, .unset, .unset] [(.int (4095 : Int32)), (.int p2)])) _
    refine XS.iand X0.here hx rfl (hb hby at_4) rfl ?_
    show Steps p.tables e below (s₁.setTop (mkF m 5 #[.val (.long q1), .second, .val (.int p2), .val (.int p3), .unset, .unset, .unset, .unset, .unset] [(.int (p2 &&& (4095 : Int32)))])) _
    refine XS.sipush X0.here hx rfl (hb hby at_5) ?_
    show Steps p.tables e below (s₁.setTop (mkF m 8 #[.val (.long q1), .second, .val (.int p2), .val (.int p3), .unset, .unset, .unset, .unset, .unset] [(.int (2048 : Int32)), (.int (p2 &&& (4095 : Int32)))])) _
    refine XS.isub X0.here hx rfl (hb hby at_8) rfl ?_
    show Steps p.tables e below (s₁.setTop (mkF m 9 #[.val (.long q1), .second, .val (.int p2), .val (.int p3), .unset, .unset, .unset, .unset, .unset] [(.int ((p2 &&& (4095 : Int32)) - (2048 : Int32)))])) _
    refine XS.istore X0.here hx rfl (hb hby at_9) rfl (l' := #[.val (.long q1), .second, .val (.int p2), .val (.int p3), .val (.int ((p2 &&& (4095 : Int32)) - (2048 : Int32))), .unset, .unset, .unset, .unset]) rfl ?_
    show Steps p.tables e below (s₁.setTop (mkF m 11 #[.val (.long q1), .second, .val (.int p2), .val (.int p3), .val (.int ((p2 &&& (4095 : Int32)) - (2048 : Int32))), .unset, .unset, .unset, .unset] [])) _
    rw [hk9]
    show Steps p.tables e below (s₁.setTop (mkF m 11 #[.val (.long q1), .second, .val (.int p2), .val (.int p3), .val (.int kk9), .unset, .unset, .unset, .unset] [])) _
    refine XS.iloadN X0.here hx rfl (hb hby at_11) rfl ?_
    show Steps p.tables e below (s₁.setTop (mkF m 12 #[.val (.long q1), .second, .val (.int p2), .val (.int p3), .val (.int kk9), .unset, .unset, .unset, .unset] [(.int p3)])) _
    refine XS.sipush X0.here hx rfl (hb hby at_12) ?_
    show Steps p.tables e below (s₁.setTop (mkF m 15 #[.val (.long q1), .second, .val (.int p2), .val (.int p3), .val (.int kk9), .unset, .unset, .unset, .unset] [(.int (1023 : Int32)), (.int p3)])) _
    refine XS.iand X0.here hx rfl (hb hby at_15) rfl ?_
    show Steps p.tables e below (s₁.setTop (mkF m 16 #[.val (.long q1), .second, .val (.int p2), .val (.int p3), .val (.int kk9), .unset, .unset, .unset, .unset] [(.int (p3 &&& (1023 : Int32)))])) _
    refine XS.iconst X0.here hx rfl (hb hby at_16) ?_
    show Steps p.tables e below (s₁.setTop (mkF m 17 #[.val (.long q1), .second, .val (.int p2), .val (.int p3), .val (.int kk9), .unset, .unset, .unset, .unset] [(.int (1 : Int32)), (.int (p3 &&& (1023 : Int32)))])) _
    refine XS.iadd X0.here hx rfl (hb hby at_17) rfl ?_
    show Steps p.tables e below (s₁.setTop (mkF m 18 #[.val (.long q1), .second, .val (.int p2), .val (.int p3), .val (.int kk9), .unset, .unset, .unset, .unset] [(.int ((p3 &&& (1023 : Int32)) + (1 : Int32)))])) _
    refine XS.istore X0.here hx rfl (hb hby at_18) rfl (l' := #[.val (.long q1), .second, .val (.int p2), .val (.int p3), .val (.int kk9), .val (.int ((p3 &&& (1023 : Int32)) + (1 : Int32))), .unset, .unset, .unset]) rfl ?_
    show Steps p.tables e below (s₁.setTop (mkF m 20 #[.val (.long q1), .second, .val (.int p2), .val (.int p3), .val (.int kk9), .val (.int ((p3 &&& (1023 : Int32)) + (1 : Int32))), .unset, .unset, .unset] [])) _
    rw [hk18]
    show Steps p.tables e below (s₁.setTop (mkF m 20 #[.val (.long q1), .second, .val (.int p2), .val (.int p3), .val (.int kk9), .val (.int kk18), .unset, .unset, .unset] [])) _
    refine XS.iload X0.here hx rfl (hb hby at_20) rfl ?_
    show Steps p.tables e below (s₁.setTop (mkF m 22 #[.val (.long q1), .second, .val (.int p2), .val (.int p3), .val (.int kk9), .val (.int kk18), .unset, .unset, .unset] [(.int kk9)])) _
    refine XS.i2dS X0.here hx rfl (hb hby at_22) rfl rfl ?_
    show Steps p.tables e below (s₁.setTop (mkF m 23 #[.val (.long q1), .second, .val (.int p2), .val (.int p3), .val (.int kk9), .val (.int kk18), .unset, .unset, .unset] [(.double (FP.i2d kk9))])) _
    refine XS.iload X0.here hx rfl (hb hby at_23) rfl ?_
    show Steps p.tables e below (s₁.setTop (mkF m 25 #[.val (.long q1), .second, .val (.int p2), .val (.int p3), .val (.int kk9), .val (.int kk18), .unset, .unset, .unset] [(.int kk18), (.double (FP.i2d kk9))])) _
    refine XS.i2dS X0.here hx rfl (hb hby at_25) rfl rfl ?_
    show Steps p.tables e below (s₁.setTop (mkF m 26 #[.val (.long q1), .second, .val (.int p2), .val (.int p3), .val (.int kk9), .val (.int kk18), .unset, .unset, .unset] [(.double (FP.i2d kk18)), (.double (FP.i2d kk9))])) _
    refine XS.ddivS X0.here hx rfl (hb hby at_26) rfl hn26 hv26 ?_
    show Steps p.tables e below (s₁.setTop (mkF m 27 #[.val (.long q1), .second, .val (.int p2), .val (.int p3), .val (.int kk9), .val (.int kk18), .unset, .unset, .unset] [(.double r26)])) _
    refine XS.dstore X0.here hx rfl (hb hby at_27) rfl (l' := #[.val (.long q1), .second, .val (.int p2), .val (.int p3), .val (.int kk9), .val (.int kk18), .val (.double r26), .second, .unset]) rfl ?_
    show Steps p.tables e below (s₁.setTop (mkF m 29 #[.val (.long q1), .second, .val (.int p2), .val (.int p3), .val (.int kk9), .val (.int kk18), .val (.double r26), .second, .unset] [])) _
    refine XS.lloadN X0.here hx rfl (hb hby at_29) rfl ?_
    show Steps p.tables e below (s₁.setTop (mkF m 30 #[.val (.long q1), .second, .val (.int p2), .val (.int p3), .val (.int kk9), .val (.int kk18), .val (.double r26), .second, .unset] [(.long q1)])) _
    refine XS.lconst X0.here hx rfl (hb hby at_30) ?_
    show Steps p.tables e below (s₁.setTop (mkF m 31 #[.val (.long q1), .second, .val (.int p2), .val (.int p3), .val (.int kk9), .val (.int kk18), .val (.double r26), .second, .unset] [(.long (1 : Int64)), (.long q1)])) _
    refine XS.lcmp X0.here hx rfl (hb hby at_31) rfl ?_
    show Steps p.tables e below (s₁.setTop (mkF m 32 #[.val (.long q1), .second, .val (.int p2), .val (.int p3), .val (.int kk9), .val (.int kk18), .val (.double r26), .second, .unset] [(.int (lcmpW q1 (1 : Int64)))])) _
    refine XS.ifNo X0.here hx rfl (hb hby at_32) rfl ((if0 _ _).trans (flt hc32).1) ?_
    show Steps p.tables e below (s₁.setTop (mkF m 35 #[.val (.long q1), .second, .val (.int p2), .val (.int p3), .val (.int kk9), .val (.int kk18), .val (.double r26), .second, .unset] [])) _
    refine XS.iload X0.here hx rfl (hb hby at_35) rfl ?_
    show Steps p.tables e below (s₁.setTop (mkF m 37 #[.val (.long q1), .second, .val (.int p2), .val (.int p3), .val (.int kk9), .val (.int kk18), .val (.double r26), .second, .unset] [(.int kk9)])) _
    refine XS.ifNo X0.here hx rfl (hb hby at_37) rfl ((if0 _ _).trans (tlt hc37).2.2.2) ?_
    show Steps p.tables e below (s₁.setTop (mkF m 40 #[.val (.long q1), .second, .val (.int p2), .val (.int p3), .val (.int kk9), .val (.int kk18), .val (.double r26), .second, .unset] [])) _
    refine XS.iload X0.here hx rfl (hb hby at_40) rfl ?_
    show Steps p.tables e below (s₁.setTop (mkF m 42 #[.val (.long q1), .second, .val (.int p2), .val (.int p3), .val (.int kk9), .val (.int kk18), .val (.double r26), .second, .unset] [(.int kk9)])) _
    refine XS.iload X0.here hx rfl (hb hby at_42) rfl ?_
    show Steps p.tables e below (s₁.setTop (mkF m 44 #[.val (.long q1), .second, .val (.int p2), .val (.int p3), .val (.int kk9), .val (.int kk18), .val (.double r26), .second, .unset] [(.int kk18), (.int kk9)])) _
    refine XS.icmpNo X0.here hx rfl (hb hby at_44) rfl (tlt hc44).2.1 ?_
    show Steps p.tables e below (s₁.setTop (mkF m 47 #[.val (.long q1), .second, .val (.int p2), .val (.int p3), .val (.int kk9), .val (.int kk18), .val (.double r26), .second, .unset] [])) _
    refine XS.iconst X0.here hx rfl (hb hby at_47) ?_
    show Steps p.tables e below (s₁.setTop (mkF m 48 #[.val (.long q1), .second, .val (.int p2), .val (.int p3), .val (.int kk9), .val (.int kk18), .val (.double r26), .second, .unset] [(.int (1 : Int32))])) _
    refine XS.goto X0.here hx rfl (pc0 := 48) (pc' := 52) rfl (hb hby at_48) (by decide) (by decide) ?_
    show Steps p.tables e below (s₁.setTop (mkF m 52 #[.val (.long q1), .second, .val (.int p2), .val (.int p3), .val (.int kk9), .val (.int kk18), .val (.double r26), .second, .unset] [(.int (1 : Int32))])) _
    refine XS.istore X0.here hx rfl (hb hby at_52) rfl (l' := #[.val (.long q1), .second, .val (.int p2), .val (.int p3), .val (.int kk9), .val (.int kk18), .val (.double r26), .second, .val (.int (1 : Int32))]) rfl ?_
    show Steps p.tables e below (s₁.setTop (mkF m 54 #[.val (.long q1), .second, .val (.int p2), .val (.int p3), .val (.int kk9), .val (.int kk18), .val (.double r26), .second, .val (.int (1 : Int32))] [])) _
    refine XS.lloadN X0.here hx rfl (hb hby at_54) rfl ?_
    show Steps p.tables e below (s₁.setTop (mkF m 55 #[.val (.long q1), .second, .val (.int p2), .val (.int p3), .val (.int kk9), .val (.int kk18), .val (.double r26), .second, .val (.int (1 : Int32))] [(.long q1)])) _
    refine XS.dload X0.here hx rfl (hb hby at_55) rfl ?_
    show Steps p.tables e below (s₁.setTop (mkF m 57 #[.val (.long q1), .second, .val (.int p2), .val (.int p3), .val (.int kk9), .val (.int kk18), .val (.double r26), .second, .val (.int (1 : Int32))] [(.double r26), (.long q1)])) _
    refine st4 _ ?_
    show Steps p.tables e below (T4.setTop (mkF m 60 #[.val (.long q1), .second, .val (.int p2), .val (.int p3), .val (.int kk9), .val (.int kk18), .val (.double r26), .second, .val (.int (1 : Int32))] [(.int (F1 q1 r26))])) _
    refine XS.iload X4.here hx rfl (hb hby at_60) rfl ?_
    show Steps p.tables e below (T4.setTop (mkF m 62 #[.val (.long q1), .second, .val (.int p2), .val (.int p3), .val (.int kk9), .val (.int kk18), .val (.double r26), .second, .val (.int (1 : Int32))] [(.int (1 : Int32)), (.int (F1 q1 r26))])) _
    refine XS.icmpNo X4.here hx rfl (hb hby at_62) rfl (teq hq1).2 ?_
    show Steps p.tables e below (T4.setTop (mkF m 65 #[.val (.long q1), .second, .val (.int p2), .val (.int p3), .val (.int kk9), .val (.int kk18), .val (.double r26), .second, .val (.int (1 : Int32))] [])) _
    refine XS.iconst X4.here hx rfl (hb hby at_65) ?_
    show Steps p.tables e below (T4.setTop (mkF m 66 #[.val (.long q1), .second, .val (.int p2), .val (.int p3), .val (.int kk9), .val (.int kk18), .val (.double r26), .second, .val (.int (1 : Int32))] [(.int (1 : Int32))])) _
    refine XS.goto X4.here hx rfl (pc0 := 66) (pc' := 70) rfl (hb hby at_66) (by decide) (by decide) ?_
    show Steps p.tables e below (T4.setTop (mkF m 70 #[.val (.long q1), .second, .val (.int p2), .val (.int p3), .val (.int kk9), .val (.int kk18), .val (.double r26), .second, .val (.int (1 : Int32))] [(.int (1 : Int32))])) _
    exact retN X4 hx (t := .boolean) Bd.returns (by simp) (hb hby at_70) hr
  · show QL n0 _ T4.heap _
    exact ⟨rfl, N4⟩
theorem own_num (p : Int32) : -2048 ≤ ((p &&& (4095 : Int32)) - (2048 : Int32)).toInt ∧ ((p &&& (4095 : Int32)) - (2048 : Int32)).toInt ≤ 2047 := by
  have h1 := c_and p (4095 : Int32) (by decide)
  have h2 := c_isub (p &&& (4095 : Int32)) (2048 : Int32)
  have h3 := Int32.toInt_lt ((p &&& (4095 : Int32)) - (2048 : Int32))
  have h4 := Int32.le_toInt ((p &&& (4095 : Int32)) - (2048 : Int32))
  rw [show (4095 : Int32).toInt = 4095 from rfl] at h1
  rw [show (2048 : Int32).toInt = 2048 from rfl] at h2
  omega
theorem own_den (p : Int32) : 1 ≤ ((p &&& (1023 : Int32)) + (1 : Int32)).toInt ∧ ((p &&& (1023 : Int32)) + (1 : Int32)).toInt ≤ 1024 := by
  have h1 := c_and p (1023 : Int32) (by decide)
  have h2 := c_iadd (p &&& (1023 : Int32)) (1 : Int32)
  have h3 := Int32.toInt_lt ((p &&& (1023 : Int32)) + (1 : Int32))
  have h4 := Int32.le_toInt ((p &&& (1023 : Int32)) + (1 : Int32))
  rw [show (1023 : Int32).toInt = 1023 from rfl] at h1
  rw [show (1 : Int32).toInt = 1 from rfl] at h2
  omega
theorem own_F2 {n d : Int32} (n1 : -2048 ≤ n.toInt) (n2 : n.toInt ≤ 2047) (d1 : 1 ≤ d.toInt) (d2 : d.toInt ≤ 1024) :
    F2 (FP.ddiv (FP.i2d n) (FP.i2d d)) = if 0 < n.toInt ∧ n.toInt < d.toInt then 1 else 0 := by
  have A := Dy.i2d n
  have B := Dy.i2d d
  have hn := A.div_nn B (by omega)
  have e1 := own_gt0 hn (Dy.zero 0).fin.ne_nan .l
  have e2 := own_lt0 hn Dy.one.fin.ne_nan .g
  have z0 : own_z FP.dconst0 = 0 := (Dy.zero 0).2.trans (Int.zero_mul _)
  have z1 : own_z FP.dconst1 = ((2 ^ 1074 : Nat) : Int) := Dy.one.2.trans (Int.one_mul _)
  have O := own_pow (k := 10) (by decide)
  have P := own_pow_pos (1074 - 10)
  have t10 : ((2 ^ 10 : Nat) : Int) = 1024 := rfl
  rw [t10] at O
  unfold F2
  simp only [e1, e2, z0, z1]
  by_cases h : 0 < n.toInt
  · have g := A.div_ge B (N := 1) (r := 10) (by omega) (by decide) (by decide) (by rw [t10]; omega)
    rw [if_pos (by generalize ((2 ^ (1074 - 10) : Nat) : Int) = C at *; omega)]
    by_cases h2 : n.toInt < d.toInt
    · have g2 := A.div_le B (N := 1023) (r := 10) (by omega) (by decide) (by decide) (by rw [t10]; omega)
      rw [if_pos (by generalize ((2 ^ (1074 - 10) : Nat) : Int) = C at *; generalize ((2 ^ 1074 : Nat) : Int) = O at *; omega), if_pos ⟨h, h2⟩]
    · have g2 := A.div_ge B (N := 1) (r := 0) (by omega) (by decide) (by decide) (by rw [show ((2 ^ 0 : Nat) : Int) = 1 from rfl]; omega)
      rw [show (1074 - 0) = 1074 from rfl] at g2
      rw [if_neg (by generalize ((2 ^ 1074 : Nat) : Int) = O at *; omega), if_neg (fun q => h2 q.2)]
  · have g := A.div_le B (N := 0) (r := 0) (by omega) (by decide) (by decide) (by rw [show ((2 ^ 0 : Nat) : Int) = 1 from rfl]; omega)
    rw [if_neg (by rw [Int.zero_mul] at g; omega), if_neg (fun q => h q.1)]
theorem rm0 (l : Launch) (Z : State) (a0 : Array Value) (hw : ∀ d ∈ tables_1, d.before a0 Z = true) (ws : List Jvm.Cond) (q1 : Int64) (p2 : Int32) (p3 : Int32) (h0 : Heap) (n0 : Nat) (Z0 : n0 ≤ h0.size) :
    MetFree l x (head1 (Jvm.Cond.code x code maxLocals ret :: ws) room_1) (fun a U => a = #[(.long q1), (.int p2), (.int p3)] ∧ Z.Warmed39 U.vm ∧ U.heap = h0) (fun _ _ _ _ _ => True) (fun _ U o U' => ∃ v L, o = .returned v ∧ QL n0 v U'.heap L ∧ FrameEnd U o U' L room_1.cells room_1.slots) := by
  obtain ⟨n1, n2⟩ := own_num p2
  obtain ⟨d1, d2⟩ := own_den p3
  have D := own_nn' ((Dy.i2d ((p2 &&& (4095 : Int32)) - (2048 : Int32))).div_nn (Dy.i2d ((p3 &&& (1023 : Int32)) + (1 : Int32))) (by omega))
  have e := own_F2 n1 n2 d1 d2
  generalize hk9 : ((p2 &&& (4095 : Int32)) - (2048 : Int32)) = kk9 at *
  generalize hk18 : ((p3 &&& (1023 : Int32)) + (1 : Int32)) = kk18 at *
  by_cases h32 : lcmpW q1 (1 : Int64) < (0 : Int32)
  · exact rm0_tf l Z a0 hw ws q1 p2 p3 kk9 kk18 _ h0 n0 Z0 hk9 hk18 rfl D h32 (if_pos h32)
  · by_cases h37 : (0 : Int32) < kk9
    · have q37 := Int32.lt_iff_toInt_lt.mp h37
      rw [show (0 : Int32).toInt = 0 from rfl] at q37
      by_cases h44 : kk9 < kk18
      · have q44 := Int32.lt_iff_toInt_lt.mp h44
        exact rm0_ffff l Z a0 hw ws q1 p2 p3 kk9 kk18 _ h0 n0 Z0 hk9 hk18 rfl D h32 h37 h44 ((if_neg h32).trans (if_neg (by rw [e, if_pos ⟨q37, q44⟩]; decide)))
      · have q44 : ¬ kk9.toInt < kk18.toInt := fun q => h44 (Int32.lt_iff_toInt_lt.mpr q)
        exact rm0_fftf l Z a0 hw ws q1 p2 p3 kk9 kk18 _ h0 n0 Z0 hk9 hk18 rfl D h32 h37 h44 ((if_neg h32).trans (if_pos (by rw [e, if_neg (fun q => q44 q.2)])))
    · have q37 : ¬ 0 < kk9.toInt := fun q => h37 (Int32.lt_iff_toInt_lt.mpr (by rw [show (0 : Int32).toInt = 0 from rfl]; exact q))
      exact rm0_ftf l Z a0 hw ws q1 p2 p3 kk9 kk18 _ h0 n0 Z0 hk9 hk18 rfl D h32 h37 ((if_neg h32).trans (if_pos (by rw [e, if_neg (fun q => q37 q.1)])))
set_option maxRecDepth 65536 in
set_option maxHeartbeats 40000000 in
theorem comes_1 {Post : Tables → Env → Array Value → State → Outcome → State → Prop} (hpost : ∀ tb e args s v u, (limb_1_1.after args s (.returned v) u = true ∧ limb_1_2.after args s (.returned v) u = true ∧ True) → FrameEnd s (.returned v) u (Jvm.fieldLocs frame_1_writes args s ++ Jvm.arrayLocs frame_1_arrays args s ++ Jvm.staticLocs frame_1_statics s) 0 0 → Post tb e args s (.returned v) u) :
    ArmFor flags0 classFile x code maxLocals ret World_1 tables_1 room_1 Calls_1 rest_1 Pre_1 Post := by
  intro l hfl _ _ p e ha hc hk s m args below hf hA hF happ hP
  obtain ⟨hcalls, hrest, hpre⟩ := hP
  obtain ⟨-, -, -, hnamed, -, -, -, hat⟩ := (Spec.applies_iff hf).mp happ
  obtain ⟨hg, hn⟩ := and_e (Cond.before_iff.mp (show (Jvm.Cond.and given_1 narrow_1).before args s = true from hpre))
  obtain ⟨g5, g6⟩ := and_e hg
  obtain ⟨g7, g8⟩ := and_e g6
  obtain ⟨g9, g10⟩ := and_e g8
  obtain ⟨w0, w1, w2, rfl⟩ : ∃ w0 w1 w2 : Value, args = #[w0, w1, w2] := by
    have hs : args.size = 3 := by simpa [Cond.value, given_1] using g5
    obtain ⟨L⟩ := args
    match L, hs with
    | [w0, w1, w2], _ => exact ⟨w0, w1, w2, rfl⟩
  have hw := fun d (hd : d ∈ tables_1) => atoms_spec (ws := Jvm.Cond.code x code maxLocals ret :: tables_1) hat d (List.mem_cons_of_mem _ hd)
  have hfit : Fit s := fun {y c} hc i hi => by
    obtain ⟨ha, rfl⟩ := Array.getElem?_eq_some_iff.mp hc
    have q := List.all_eq_true.mp ((Array.all_eq_true_iff_forall_mem.mp hF) _ (Array.getElem_mem ha)) i (List.mem_range.mpr hi)
    simpa [Array.getElem?_eq_getElem hi] using q
  obtain ⟨i0, ei0⟩ := isL_v g7
  obtain rfl : w0 = (.long i0) := Option.some.inj ei0
  obtain ⟨i1, ei1⟩ := is_v g9
  obtain rfl : w1 = (.int i1) := Option.some.inj ei1
  obtain ⟨i2, ei2⟩ := is_v g10
  obtain rfl : w2 = (.int i2) := Option.some.inj ei2
  obtain ⟨n, o, h1, h2, h3, _, L, rfl, ⟨rfl, N⟩, hq⟩ := rm0 l s _ hw tables_1 i0 i1 i2 s.heap s.heap.size (Nat.le_refl _) p e ha hc hk s m _ below hf ((Spec.applies_iff_loose hf).mp happ).1 ⟨rfl, State.Warmed39.refl s, rfl⟩ trivial
  refine ⟨n, _, h1, h2, h3, hpost _ _ _ _ _ _ ⟨Cond.after_iff.mpr rfl, Cond.after_iff.mpr (eq_i res_at (Term.int_eval (1)) rfl), trivial⟩ ⟨hq.1, hq.2.1, (hq.2.2.sift fun y hy => Or.inr (N y hy)).mono (by decide) (by decide)⟩⟩
theorem main_1_1 : Claimed_1_1 := comes_1 fun _ _ _ _ _ _ h hF => ⟨h.1, hF⟩
theorem main_1_2 : Claimed_1_2 := comes_1 fun _ _ _ _ _ _ h hF => ⟨h.2.1, hF⟩

end Jvm.Pilot.@@N@@
namespace Jvm.Pilot.@@N@@
open Jvm Jvm.ClassFile Sem Op Lib Jvm.Free Jvm.Stand Jvm.Pilot.@@N@@.Jvm.D
/-! MADE BY PROGRAM (witnessworld.py) out of the Statement's table words and the real class files: 9 classes; the members and pool entries that the words name. The judged class is class 1, her method 1. -/
namespace start1
open Jvm.ClassFile
def u (s : String) : CpInfo := .utf8 (stringToUtf16 s)
/-- a pool by its gaps: so many unusable entries, then the entry; so many at the end -/
def gap : Nat → List CpInfo → List CpInfo
  | 0, r => r
  | n + 1, r => .unusable :: gap n r
def poolList (es : List (Nat × CpInfo)) (last : Nat) : List CpInfo := es.foldr (fun e r => gap e.1 (e.2 :: r)) (gap last [])
def pool (es : List (Nat × CpInfo)) (last : Nat) : Array CpInfo := ⟨poolList es last⟩
def fileOf (pool : Array CpInfo) (this : Nat) (attrs : Array Attribute := #[]) (ms : Array MethodInfo := #[]) (fl : Nat := 33) (sup : Nat := 0) (ifs : Array Nat := #[]) (fds : Array FieldInfo := #[]) : ClassFile where
  minorVersion := 0
  majorVersion := 65
  constantPool := pool
  accessFlags := fl
  thisClass := this
  superClass := sup
  interfaces := ifs
  fields := fds
  methods := ms
  attributes := attrs
def plain (name : String) (sup : Option ClassId) : Class where
  name := name
  kind := .ordinary
  loader := none
  accessFlags := 33
  super := sup
  interfaces := #[]
  cf := none
  fields := #[]
  methods := #[]
  instanceTypes := #[]
  staticTypes := #[]
  resolved := #[]
  callSites := []
  init := .initialized
  statics := none
  mirror := none

def pool0 : Array CpInfo := pool [(5, u "<init>"), (0, u "()V"), (1, .class_ 10), (1, u "java/lang/Object")] 113

def k0m0 : Method := { name := "<init>", desc := "()V", sig := { parameters := [], returnType := none }, accessFlags := 1, code := none }
/-- java/lang/Object -/
def k0 : Class := { plain "java/lang/Object" none with
  accessFlags := 33
  interfaces := #[]
  cf := some (fileOf pool0 8 #[] #[{ accessFlags := 1, nameIndex := 5, descriptorIndex := 6, attributes := #[] }] 33 0 #[] #[])
  fields := #[]
  methods := #[k0m0]
  instanceTypes := #[]
  staticTypes := #[]
  resolved := Array.replicate 124 none
  statics := none }

def pool1 : Array CpInfo := pool [(2, .class_ 4), (1, u "java/lang/Object"), (0, u "<init>"), (0, u "()V"), (0, .methodref 8 9), (0, .class_ 10), (0, .nameAndType 11 12), (0, u "com/example/echo_bridge/echobridge/membership/FilterTarget"), (0, u "isValid"), (0, u "(JD)Z"), (0, .class_ 14), (0, u "com/example/echo_bridge/echobridge/membership/FilterTargetIsValidPinLaw"), (2, u "law"), (0, u "(JII)Z")] 3

def k1m0 : Method := { name := "<init>", desc := "()V", sig := { parameters := [], returnType := none }, accessFlags := 1, code := none }
def k1c1 : Code := { maxStack := 4, maxLocals := 9, code := code, exceptionTable := #[], attributes := #[] }
def k1m1 : Method := { name := "law", desc := "(JII)Z", sig := { parameters := [.long, .int, .int], returnType := some .boolean }, accessFlags := 9, code := some k1c1 }
/-- com/example/echo_bridge/echobridge/membership/FilterTargetIsValidPinLaw -/
def k1 : Class := { plain "com/example/echo_bridge/echobridge/membership/FilterTargetIsValidPinLaw" (some 0) with
  accessFlags := 49
  interfaces := #[]
  cf := some (fileOf pool1 13 #[] #[{ accessFlags := 1, nameIndex := 5, descriptorIndex := 6, attributes := #[] }, { accessFlags := 9, nameIndex := 17, descriptorIndex := 18, attributes := #[] }] 49 2 #[] #[])
  fields := #[]
  methods := #[k1m0, k1m1]
  instanceTypes := #[]
  staticTypes := #[]
  resolved := Array.replicate 22 none
  statics := none }

def pool2 : Array CpInfo := pool [(2, .class_ 4), (1, u "java/lang/Object"), (0, u "<init>"), (0, u "()V"), (0, .methodref 8 9), (0, .class_ 10), (0, .nameAndType 11 12), (0, u "com/example/echo_bridge/echobridge/membership/FilterTarget"), (0, u "isRate"), (0, u "(D)Z"), (14, u "isValid"), (0, u "(JD)Z")] 22

def k2m0 : Method := { name := "<init>", desc := "()V", sig := { parameters := [], returnType := none }, accessFlags := 2, code := none }
def k2c1 : Code := { maxStack := 4, maxLocals := 4, code := prog_32_method_2_code, exceptionTable := #[], attributes := #[] }
def k2m1 : Method := { name := "isValid", desc := "(JD)Z", sig := { parameters := [.long, .double], returnType := some .boolean }, accessFlags := 8, code := some k2c1 }
def k2c2 : Code := { maxStack := 4, maxLocals := 2, code := prog_32_method_4_code, exceptionTable := #[], attributes := #[] }
def k2m2 : Method := { name := "isRate", desc := "(D)Z", sig := { parameters := [.double], returnType := some .boolean }, accessFlags := 10, code := some k2c2 }
/-- com/example/echo_bridge/echobridge/membership/FilterTarget -/
def k2 : Class := { plain "com/example/echo_bridge/echobridge/membership/FilterTarget" (some 0) with
  accessFlags := 32
  interfaces := #[]
  cf := some (fileOf pool2 8 #[] #[{ accessFlags := 2, nameIndex := 5, descriptorIndex := 6, attributes := #[] }, { accessFlags := 8, nameIndex := 27, descriptorIndex := 28, attributes := #[] }, { accessFlags := 10, nameIndex := 11, descriptorIndex := 12, attributes := #[] }] 32 2 #[] #[])
  fields := #[]
  methods := #[k2m0, k2m1, k2m2]
  instanceTypes := #[]
  staticTypes := #[]
  resolved := Array.replicate 51 none
  statics := none }

def pool3 : Array CpInfo := pool [(1, u "java/lang/Cloneable"), (0, .class_ 1), (0, u "java/lang/Object"), (0, .class_ 3)] 3

/-- java/lang/Cloneable -/
def k3 : Class := { plain "java/lang/Cloneable" (some 0) with
  accessFlags := 1537
  interfaces := #[]
  cf := some (fileOf pool3 2 #[] #[] 1537 4 #[] #[])
  fields := #[]
  methods := #[]
  instanceTypes := #[]
  staticTypes := #[]
  resolved := Array.replicate 8 none
  statics := none }

def pool4 : Array CpInfo := pool [(1, u "java/io/Serializable"), (0, .class_ 1), (0, u "java/lang/Object"), (0, .class_ 3)] 3

/-- java/io/Serializable -/
def k4 : Class := { plain "java/io/Serializable" (some 0) with
  accessFlags := 1537
  interfaces := #[]
  cf := some (fileOf pool4 2 #[] #[] 1537 4 #[] #[])
  fields := #[]
  methods := #[]
  instanceTypes := #[]
  staticTypes := #[]
  resolved := Array.replicate 8 none
  statics := none }

/-- the primitive byte -/
def k5 : Class := { plain "byte" none with kind := .primitive 'B', accessFlags := 0x411 }
/-- [B -/
def k6 : Class := { plain "[B" (some 0) with kind := .array 5 .byte, interfaces := #[3, 4], accessFlags := 1041 }

/-- the primitive int -/
def k7 : Class := { plain "int" none with kind := .primitive 'I', accessFlags := 0x411 }
/-- [I -/
def k8 : Class := { plain "[I" (some 0) with kind := .array 7 .int, interfaces := #[3, 4], accessFlags := 1041 }

def heap : Heap := #[]
def classes : Array Class := #[k0, k1, k2, k3, k4, k5, k6, k7, k8]
def interned : List (Array UInt16 × Addr) := []
def slotsUsed : Nat := 0
def theMethod : MethodId := ⟨1, 1⟩
def args0 : Array Value := #[.long 5, .int 7, .int 9]
def aboutOver (below : List Frame) : State where
  vm := { classes := classes, interned := interned.toArray }
  heap := heap
  slotsUsed := slotsUsed
  threads := #[{ frames := .invoking theMethod args0 :: below }]
def below0 : List Frame := [.native { method := ⟨0, 0⟩, args := #[] }]
def about1 : State := aboutOver below0
def p0 : Program := .bare "" "" ""
def e0 : Env := launch0.env 0 0 0
theorem w_frames : about1.frames = Frame.invoking theMethod args0 :: below0 := rfl
set_option maxRecDepth 65536 in
theorem w_args : argsFit about1.vm theMethod args0 = true := by decide +kernel
set_option maxRecDepth 65536 in
theorem w_heap : heapFits about1 = true := by decide +kernel
set_option maxRecDepth 65536 in
theorem w_runnable : about1.curStatus? = some .runnable := by decide +kernel
set_option maxRecDepth 65536 in
theorem w_alone : about1.alone = true := by decide +kernel
set_option maxRecDepth 65536 in
theorem w_named : about1.methodNamed? x = some theMethod := by decide +kernel
set_option maxRecDepth 65536 in
theorem w_hears : about1.hears theMethod below0 = true := by decide +kernel
set_option maxRecDepth 65536 in
theorem w_ripe : about1.ripe theMethod args0 below0 = true := by decide +kernel
theorem w_running : about1.status = .running := rfl
set_option maxRecDepth 65536 in
theorem w_room : about1.hasRoom e0.platform room_1 = true :=
  launch0.hasRoom_least _ room_1 (by decide +kernel) (by decide +kernel) (by decide +kernel) (by decide +kernel) (by decide +kernel) (by decide +kernel)
theorem allAtoms_all (ts : List Jvm.Cond) (a : Array Jvm.Value) (st : Jvm.State) : (allAtoms ts).before a st = ts.all (fun c => c.before a st) := by
  induction ts with
  | nil => rfl
  | cons c t ih =>
    show (Jvm.Cond.and c (allAtoms t)).before a st = _
    rw [Jvm.Cond.before_and, ih, List.all_cons]
def words1 : List Jvm.Cond := Jvm.Cond.code x code maxLocals ret :: tables_1
/-- a 'code' word, met by the world's own term for the bytes: nothing is compared byte by byte -/
theorem code_word {y : MethodName} {bytes : ByteArray} {mx : Nat} {rt : Option FieldType} {a : Array Value} {s : State} {m : MethodId} {meth : Method} {c : Code} (h1 : s.methodNamed? y = some m) (h2 : s.vm.method? m = some meth) (h3 : meth.code = some c) (h4 : c.code = bytes)
    (h5 : (c.maxLocals == mx && c.exceptionTable.isEmpty && decide (c.maxStack ≤ mostOperands) && decide (meth.sig.returnType = rt) && !meth.locks && decide (parseMethodDescriptor y.desc = some meth.sig)) = true) : (Jvm.Cond.code y bytes mx rt).before a s = true := by
  simp only [Bool.and_eq_true, beq_iff_eq, Bool.not_eq_true', decide_eq_true_eq] at h5
  obtain ⟨⟨⟨⟨⟨g1, g2⟩, g3⟩, g4⟩, g5⟩, g6⟩ := h5
  simp [Cond.before, Cond.holds, Cond.value, h1, h2, h3, h4, g1, g2, g3, g4, g5, g6]
def isCode : Jvm.Cond → Bool
  | .code _ _ _ _ => true
  | _ => false
theorem all_split {L : List Jvm.Cond} {P : Jvm.Cond → Bool} (h1 : L.all (fun c => isCode c || P c) = true) (h2 : ∀ c ∈ L.filter isCode, P c = true) : L.all P = true := by
  refine List.all_eq_true.mpr fun c hc => ?_
  have h := List.all_eq_true.mp h1 c hc
  rcases Bool.eq_false_or_eq_true (isCode c) with hi | hi
  · exact h2 c (List.mem_filter.mpr ⟨hc, hi⟩)
  · simpa [hi] using h
set_option maxRecDepth 65536 in
theorem w_c0 : (Jvm.Cond.code x code maxLocals ret).before args0 about1 = true := code_word (m := ⟨1, 1⟩) (meth := k1m1) (c := k1c1) (by decide +kernel) rfl rfl rfl (by decide +kernel)
set_option maxRecDepth 65536 in
theorem w_c1 : (Jvm.Cond.code ({ cls := "com/example/echo_bridge/echobridge/membership/FilterTarget", name := "isValid", desc := "(JD)Z" } : Jvm.MethodName) prog_32_method_2_code (4 : Nat) (Option.some Jvm.ClassFile.FieldType.boolean)).before args0 about1 = true := code_word (m := ⟨2, 1⟩) (meth := k2m1) (c := k2c1) (by decide +kernel) rfl rfl rfl (by decide +kernel)
set_option maxRecDepth 65536 in
theorem w_c2 : (Jvm.Cond.code ({ cls := "com/example/echo_bridge/echobridge/membership/FilterTarget", name := "isRate", desc := "(D)Z" } : Jvm.MethodName) prog_32_method_4_code (2 : Nat) (Option.some Jvm.ClassFile.FieldType.boolean)).before args0 about1 = true := code_word (m := ⟨2, 2⟩) (meth := k2m2) (c := k2c2) (by decide +kernel) rfl rfl rfl (by decide +kernel)
def codes1 : List Jvm.Cond := [Jvm.Cond.code x code maxLocals ret, Jvm.Cond.code ({ cls := "com/example/echo_bridge/echobridge/membership/FilterTarget", name := "isValid", desc := "(JD)Z" } : Jvm.MethodName) prog_32_method_2_code (4 : Nat) (Option.some Jvm.ClassFile.FieldType.boolean), Jvm.Cond.code ({ cls := "com/example/echo_bridge/echobridge/membership/FilterTarget", name := "isRate", desc := "(D)Z" } : Jvm.MethodName) prog_32_method_4_code (2 : Nat) (Option.some Jvm.ClassFile.FieldType.boolean)]
set_option maxRecDepth 65536 in
theorem codes_eq : words1.filter isCode = codes1 := rfl
theorem w_codes : ∀ c ∈ words1.filter isCode, c.before args0 about1 = true := by
  rw [codes_eq]
  intro c hc
  simp only [codes1, List.mem_cons, List.not_mem_nil, or_false] at hc
  rcases hc with rfl | rfl | rfl
  · exact w_c0
  · exact w_c1
  · exact w_c2
set_option maxRecDepth 65536 in
theorem w_t1 : words1.all (fun c => isCode c || c.before args0 about1) = true := by decide +kernel
theorem w_tables : (allAtoms (Jvm.Cond.code x code maxLocals ret :: tables_1)).before args0 about1 = true := by
  rw [allAtoms_all]
  show words1.all (fun c => c.before args0 about1) = true
  refine all_split ?_ w_codes
  rw [w_t1]
set_option maxRecDepth 65536 in
theorem w_case : (Jvm.Cond.and given_1 narrow_1).before args0 about1 = true := by decide +kernel
theorem w_applies : (headSpec (Jvm.Cond.code x code maxLocals ret :: tables_1) room_1).applies x e0.platform about1 = true :=
  (Spec.applies_iff w_frames).mpr ⟨w_running, w_runnable, w_alone, w_named, w_hears, w_ripe, w_room, w_tables⟩
theorem atStart : AtStart classFile x code maxLocals ret World_1 tables_1 room_1 Calls_1 rest_1 Pre_1 launch0 p0 e0 about1 theMethod args0 below0 :=
  ⟨lists_1, trivial, launch0.admits_env _ _ _, launch0.least_env, fairChoices_fair.cas, fairChoices_fair.clock, w_frames, w_args, w_heap, w_applies, trivial, trivial, w_case⟩
end start1
theorem witness_1 : WitnessClaimed_1 := ⟨start1.p0, start1.e0, start1.about1, start1.theMethod, start1.args0, start1.below0, start1.atStart⟩
end Jvm.Pilot.@@N@@
