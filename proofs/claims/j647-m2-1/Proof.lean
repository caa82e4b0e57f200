import JvmDerived
import JvmDerived.Pilot.@@N@@Statement
import JvmDerived.Pilot.@@N@@Code
set_option linter.unusedVariables false
set_option linter.unusedSimpArgs false
namespace Jvm.RoadKit
open Sem ClassFile Op Lib Jvm.Stand Jvm.Free Jvm.LawKit
section New
variable {p : Program} {l : Launch} {e : Env} {R : Room} {s : State} {m : MethodId} {args : Array Value} {below : List Frame} {meth : Method} {c : Code} {T : State} {locs : List Loc} {cells slots : Nat}
theorem retI (X : Stand p l e R s m args below meth c T locs cells slots) (hx : p.tables.exec = Jvm.exec) {pc : Nat} {Ls : Array Slot} {z : Int32} {rest : List Value} (hret : meth.sig.returnType = some .int) (hd : decode c.code pc = .ok (.ireturn, 1)) {fs : List Frame}
    (hl : ∀ (f : JFrame) (acts : List Action), f.method = m → f.locked = none → f.entered = [] → (doReturn e (T.setTop f) acts (some (.int z))).1 = T.setFrames fs) : Steps p.tables e below (T.setTop (mkF m pc Ls (.int z :: rest))) (T.setFrames fs) := by
  have hm' : T.vm.method? m = some meth := X.method'
  have hn : narrow .int (.int z) = .int z := rfl
  show Steps p.tables e below (T.setTop { method := m, pc := pc, locals := Ls, stack := _ :: rest, locked := none }) _
  jvm_step X.here [X.here.top, hx, hd, hm', hret, hn]
  first | (intro acts; rw [hl _ acts rfl rfl rfl]) | rw [hl _ _ rfl rfl rfl]
  exact Steps.refl _
theorem lremM {g : JFrame} {target : State} (X : Stand p l e R s m args below meth c T locs cells slots) (hx : p.tables.exec = Jvm.exec) (hg : g.method = m) {x y : Int64} {rest : List Value} (hd : decode c.code g.pc = .ok (.lrem, 1)) (hs : g.stack = .long y :: .long x :: rest) (hy : y ≠ 0)
    (hr : Steps p.tables e below (T.setTop { g with pc := g.pc + 1, stack := .long (x % y) :: rest }) target) : Steps p.tables e below (T.setTop g) target := by
  have q : x - x / y * y = x % y := lrem_mod x y
  exact XS.lrem X.here hx hg hd hs hy (by rw [q]; exact hr)
/-- from the state t the invocation ends as Q says -/
def Done (p : Program) (e : Env) (below : List Frame) (Q : Outcome → State → Prop) (t : State) : Prop := ∃ s₂ o, Steps p.tables e below t s₂ ∧ s₂.status = .running ∧ Ended s₂ below o ∧ Q o s₂
theorem Done.of {p : Program} {e : Env} {below : List Frame} {Q : Outcome → State → Prop} {t t' : State} (h : Done p e below Q t') (k : ∀ target, Steps p.tables e below t' target → Steps p.tables e below t target) : Done p e below Q t := by
  obtain ⟨s₂, o, h1, h2⟩ := h
  exact ⟨s₂, o, k _ h1, h2⟩
end New
end Jvm.RoadKit
-- (own work) exact dyadic doubles: values in units of the least double
namespace Own
open Jvm.FP.Core
def Rep (z : Int) : Prop := ∃ V : UInt64, DFin V ∧ zval b64 (val64 V) = z
theorem rep (n : Int) (hn : n.natAbs < 2 ^ 53) (j : Nat) (hj : j ≤ 2045) : Rep (n * ((2 ^ j : Nat) : Int)) := by
  have hq : b64.qmax - b64.qmin = 2045 := by decide +kernel
  obtain ⟨c', q', h1, h2⟩ := round_exact good_b64 (decide (n < 0)) (c := n.natAbs) (q := b64.qmin + j) hn (by omega) (by omega)
  have hf := round_fits good_b64 (.fin (decide (n < 0)) n.natAbs (b64.qmin + j))
  refine ⟨of64 (.fin (decide (n < 0)) c' q'), ?_, ?_⟩
  · rw [h1] at hf
    exact ⟨_, _, _, val64_of64 hf⟩
  · rw [h1] at hf
    rw [val64_of64 hf]
    show signed (decide (n < 0)) (inUnits c' q' b64.qmin) = _
    rw [h2]
    unfold inUnits
    rw [show (b64.qmin + (j : Int) - b64.qmin).toNat = j by omega, signed_mul]
    congr 1
    unfold signed
    by_cases h : n < 0 <;> simp [h] <;> omega
theorem finOf {x V : UInt64} (hx : val64 x ≠ .nan) (hV : DFin V) (h : zval b64 (val64 x) = zval b64 (val64 V)) : DFin x := by
  have h1 := hV.zval_lt
  cases hv : val64 x with
  | nan => exact absurd hv hx
  | fin s c q => exact ⟨s, c, q, hv⟩
  | inf s =>
    exfalso
    rw [hv] at h
    have h2 : (zval b64 (.inf s)).natAbs = b64.tails * 2 ^ (b64.exps - 2) := natAbs_signed _ _
    rw [h] at h2
    have h3 : (zval b64 (val64 V)).natAbs = zmag b64 (val64 V) := natAbs_signed _ _
    omega
theorem add {a b : UInt64} {z : Int} (ha : DFin a) (hb : DFin b) (hz : zval b64 (val64 a) + zval b64 (val64 b) = z) (r : Rep z) : DFin (dadd a b) ∧ zval b64 (val64 (dadd a b)) = z := by
  obtain ⟨V, hV, rfl⟩ := r
  have e : zval b64 (val64 (dadd a b)) = zval b64 (val64 V) := by
    rw [val64_dadd]
    exact Int.le_antisymm (sum_le good_b64 ha hb (val64_fits a) (val64_fits b) (val64_fits V) hV.ne_nan (Int.le_of_eq hz)) (sum_ge good_b64 ha hb (val64_fits a) (val64_fits b) (val64_fits V) hV.ne_nan (Int.le_of_eq hz.symm))
  exact ⟨finOf ((notNaN_iff _).mp (dadd_out ha.notNaN hb)) hV e, e⟩
theorem neg {b : UInt64} (hb : DFin b) : DFin (dneg b) ∧ zval b64 (val64 (dneg b)) = -zval b64 (val64 b) := by
  obtain ⟨s, c, q, h⟩ := hb
  refine ⟨⟨!s, c, q, ?_⟩, ?_⟩
  · rw [val64_dneg, h]; rfl
  · rw [val64_dneg, zval_negate]
theorem sub {a b : UInt64} {z : Int} (ha : DFin a) (hb : DFin b) (hz : zval b64 (val64 a) - zval b64 (val64 b) = z) (r : Rep z) : DFin (dsub a b) ∧ zval b64 (val64 (dsub a b)) = z := by
  rw [dsub_eq]
  exact add ha (neg hb).1 (by rw [(neg hb).2]; omega) r
theorem mul {a b : UInt64} {z : Int} (ha : DFin a) (hb : DFin b) (hz : zval b64 (val64 a) * zval b64 (val64 b) = z * (one64 : Int)) (r : Rep z) : DFin (dmul a b) ∧ zval b64 (val64 (dmul a b)) = z := by
  obtain ⟨V, hV, rfl⟩ := r
  have hn := (notNaN_iff _).mp (dmul_out ha hb)
  obtain ⟨s, c, q, h1⟩ := ha
  obtain ⟨t, d, u, h2⟩ := hb
  have f1 := val64_fits a
  have f2 := val64_fits b
  rw [h1] at f1 hz
  rw [h2] at f2 hz
  obtain ⟨p1, p2, p3⟩ := product_units f1 f2
  have e0 : b64.qmin - 2 * b64.qmin = -b64.qmin := by omega
  have e2 : signed (s != t) (inUnits (c * d) (q + u) (2 * b64.qmin)) = zval b64 (val64 V) * ((2 ^ (b64.qmin - 2 * b64.qmin).toNat : Nat) : Int) := by
    rw [p3, signed_xor, e0, pow_qmin64]; exact hz
  have e : zval b64 (val64 (dmul a b)) = zval b64 (val64 V) := by
    rw [val64_dmul, h1, h2, p1]
    exact Int.le_antisymm (zval_round_le good_b64 (val64_fits V) hV.ne_nan (by decide +kernel) p2 (Int.le_of_eq e2)) (zval_round_ge good_b64 (val64_fits V) hV.ne_nan (by decide +kernel) p2 (Int.le_of_eq e2.symm))
  exact ⟨finOf hn hV e, e⟩
theorem div {a b : UInt64} {z : Int} (ha : DFin a) (hb : DFin b) (h0 : zval b64 (val64 b) ≠ 0) (hz : z * zval b64 (val64 b) = zval b64 (val64 a) * (one64 : Int)) (r : Rep z) : DFin (ddiv a b) ∧ zval b64 (val64 (ddiv a b)) = z := by
  obtain ⟨V, hV, rfl⟩ := r
  have hnz : ¬ DZero b := fun hz0 => h0 hz0.zval
  have hn := (notNaN_iff _).mp (ddiv_out ha.notNaN hb hnz)
  obtain ⟨s, c, q, h1⟩ := ha
  obtain ⟨t, d, u, h2⟩ := hb
  have f1 := val64_fits a
  have f2 := val64_fits b
  rw [h1] at f1 hz
  rw [h2] at f2 hz h0
  have hd : d ≠ 0 := fun e => h0 (by rw [e]; show signed t (inUnits 0 u b64.qmin) = 0; unfold inUnits; rw [Nat.zero_mul]; exact signed_zero t)
  have hq1 := f1.2.1
  have hq2 := f2.2.1
  have hqm : b64.qmin = -1074 := qmin_b64
  -- magnitudes
  have hm : zmag b64 (val64 V) * inUnits d u b64.qmin = inUnits c q b64.qmin * one64 := by
    have := congrArg Int.natAbs hz
    rw [Int.natAbs_mul, Int.natAbs_mul] at this
    have e1 : (zval b64 (val64 V)).natAbs = zmag b64 (val64 V) := natAbs_signed _ _
    have e2 : (zval b64 (.fin t d u)).natAbs = inUnits d u b64.qmin := natAbs_signed _ _
    have e3 : (zval b64 (.fin s c q)).natAbs = inUnits c q b64.qmin := natAbs_signed _ _
    rw [e1, e2, e3] at this
    exact this
  -- e0
  let E : Int := -1074 - (u + 1074)
  have hE : E = -1074 - (u + 1074) := rfl
  have key : inUnits c (q - u) E = zmag b64 (val64 V) * 2 ^ (b64.qmin - E).toNat * d := by
    have e1 : inUnits c (q - u) E = inUnits c q b64.qmin * one64 := by
      unfold inUnits one64
      rw [Nat.mul_assoc, ← Nat.pow_add]
      congr 2
      omega
    have e2 : zmag b64 (val64 V) * 2 ^ (b64.qmin - E).toNat * d = zmag b64 (val64 V) * inUnits d u b64.qmin := by
      unfold inUnits
      rw [show (b64.qmin - E).toNat = (u - b64.qmin).toNat by omega, Nat.mul_assoc, Nat.mul_comm (2 ^ _) d]
    rw [e1, e2, hm]
  have hquo : val64 (ddiv a b) = roundRatio b64 (s != t) c d (q - u) := by
    rw [val64_ddiv, h1, h2]
    show (if d = 0 then _ else roundRatio b64 (s != t) c d (q - u)) = _
    rw [if_neg hd]
  have hmag : zmag b64 (val64 (ddiv a b)) = zmag b64 (val64 V) := by
    rw [hquo]
    exact Nat.le_antisymm (zmag_roundRatio_le good_b64 (Nat.pos_of_ne_zero hd) (val64_fits V) hV.ne_nan (by omega) (by omega) (Nat.le_of_eq key)) (zmag_roundRatio_ge good_b64 (Nat.pos_of_ne_zero hd) (val64_fits V) (by omega) (by omega) (Nat.le_of_eq key.symm))
  have hs : sgn (val64 (ddiv a b)) = (s != t) := by rw [hquo, sgn_roundRatio]
  have e : zval b64 (val64 (ddiv a b)) = zval b64 (val64 V) := by
    show signed _ _ = signed _ _
    rw [hs, hmag]
    have hzs : zval b64 (val64 V) * signed t (inUnits d u b64.qmin) = signed s (inUnits c q b64.qmin) * (one64 : Int) := hz
    have hp : 0 < inUnits d u b64.qmin := Nat.mul_pos (Nat.pos_of_ne_zero hd) (Nat.two_pow_pos _)
    have ho := one64_pos
    have hz2 : signed (sgn (val64 V)) (zmag b64 (val64 V)) * signed t (inUnits d u b64.qmin) = signed s (inUnits c q b64.qmin) * (one64 : Int) := hzs
    generalize zmag b64 (val64 V) = m at *
    generalize inUnits d u b64.qmin = D at *
    generalize inUnits c q b64.qmin = C at *
    generalize one64 = O at *
    generalize sgn (val64 V) = w at *
    by_cases hm0 : m = 0
    · subst hm0; rw [signed_zero, signed_zero]
    · have hmp : 0 < m := Nat.pos_of_ne_zero hm0
      have h3 : 0 < m * D := Nat.mul_pos hmp hp
      have h4 : (m : Int) * (D : Int) = (C : Int) * (O : Int) := by rw [← Int.natCast_mul, ← Int.natCast_mul, hm]
      have h5 : (0 : Int) < (m : Int) * (D : Int) := by rw [← Int.natCast_mul]; omega
      cases s <;> cases t <;> cases w <;> simp [signed, Int.neg_mul, Int.mul_neg] at hz2 ⊢ <;> omega
  exact ⟨finOf hn hV e, e⟩
def ratio (m c : Int64) : UInt64 := if c = 0 then 0 else ddiv (l2d m) (l2d c)
def half1 (m c : Int64) : UInt64 := dmul 4602678819172646912 (dsub 4607182418800017408 (ratio m c))
def fitn (m c r p : Int64) : UInt64 := dadd (half1 m c) (half1 r p)
def S (n : Int) (m c : Int64) : Prop := DFin (ratio m c) ∧ DFin (dsub 4607182418800017408 (ratio m c)) ∧ DFin (half1 m c) ∧ zval b64 (val64 (half1 m c)) = n * ((2 ^ 1057 : Nat) : Int)
theorem finH : DFin 4602678819172646912 ∧ zval b64 (val64 4602678819172646912) = ((2 ^ 1073 : Nat) : Int) := ⟨(fin_bits _).mpr (by decide), by decide +kernel⟩
theorem fin1 : DFin 4607182418800017408 ∧ zval b64 (val64 4607182418800017408) = ((2 ^ 1074 : Nat) : Int) := ⟨(fin_bits _).mpr (by decide), by decide +kernel⟩
theorem finK : DFin 4683743612465315840 ∧ zval b64 (val64 4683743612465315840) = ((2 ^ 1091 : Nat) : Int) := ⟨(fin_bits _).mpr (by decide), by decide +kernel⟩
theorem fin0 : DFin 0 ∧ zval b64 (val64 0) = 0 := ⟨(fin_bits _).mpr (by decide), zval64_zero⟩
theorem one64c : (one64 : Int) = ((2 ^ 1074 : Nat) : Int) := rfl
/-- units: 2^(i + j) -/
theorem p2 (i j : Nat) : ((2 ^ i : Nat) : Int) * ((2 ^ j : Nat) : Int) = ((2 ^ (i + j) : Nat) : Int) := by rw [← Int.natCast_mul, ← Nat.pow_add]
theorem p3 (x : Int) (i j : Nat) : x * ((2 ^ i : Nat) : Int) * ((2 ^ j : Nat) : Int) = x * ((2 ^ (i + j) : Nat) : Int) := by rw [Int.mul_assoc, p2]
theorem own_pko (m P K O : Int) (h : P * K = O) : m * P * (K * O) = m * O * O := by
  rw [Int.mul_assoc, ← Int.mul_assoc P K O, h, Int.mul_assoc]
theorem s_of {n : Int} {k : Nat} {m c : Int64} (hk : k ≤ 16) (hR : DFin (ratio m c)) (hz : zval b64 (val64 (ratio m c)) = ((2 ^ k : Nat) : Int) * ((2 ^ (1074 - k) : Nat) : Int) - n * ((2 ^ (1074 - k) : Nat) : Int)) (hn : n.natAbs < 2 ^ 53) : S (n * ((2 ^ (16 - k) : Nat) : Int)) m c := by
  have e1 := sub (z := n * ((2 ^ (1074 - k) : Nat) : Int)) fin1.1 hR (by rw [fin1.2, hz, p2, show k + (1074 - k) = 1074 by omega]; omega) (rep n hn _ (by omega))
  have e2 := mul (z := n * ((2 ^ (1073 - k) : Nat) : Int)) finH.1 e1.1 (by rw [finH.2, e1.2, one64c, Int.mul_comm, p3, p3, show 1074 - k + 1073 = 1073 - k + 1074 by omega]) (rep n hn _ (by omega))
  refine ⟨hR, e1.1, e2.1, ?_⟩
  show zval b64 (val64 (dmul _ (dsub _ _))) = _
  rw [e2.2, p3, show 16 - k + 1057 = 1073 - k by omega]
theorem s0 (m : Int64) : S 65536 m 0 := by
  have e : ratio m 0 = 0 := if_pos rfl
  have h := s_of (n := 1) (k := 0) (m := m) (c := 0) (by omega) (by rw [e]; exact fin0.1) (by rw [e, fin0.2]; omega) (by decide)
  exact h
theorem s1 {k : Nat} {m c : Int64} (hk : k ≤ 15) (hc : c.toInt = ((2 ^ k : Nat) : Int)) (h0 : 0 ≤ m.toInt) (h1 : m.toInt ≤ 2147483648) : S ((((2 ^ k : Nat) : Int) - m.toInt) * ((2 ^ (16 - k) : Nat) : Int)) m c := by
  have hk2 : (2 ^ k : Nat) ≤ 2 ^ 15 := Nat.pow_le_pow_right (by decide) hk
  have hk3 : 0 < (2 ^ k : Nat) := Nat.two_pow_pos _
  have hc0 : c ≠ 0 := fun e => by rw [e] at hc; have : (0 : Int64).toInt = 0 := by decide
                                  omega
  have e : ratio m c = ddiv (l2d m) (l2d c) := if_neg hc0
  have zm := DInt_zval (l2d_int (a := m) (by omega))
  have zc := DInt_zval (l2d_int (a := c) (by rw [hc]; omega))
  have hp := one64_pos
  have d := div (z := m.toInt * ((2 ^ (1074 - k) : Nat) : Int)) (l2d_fin m) (l2d_fin c) (by rw [zc, hc, ← Int.natCast_mul]; have := Nat.mul_pos hk3 hp; omega) (by rw [zc, zm, hc]; exact own_pko _ _ _ _ (by rw [one64c, p2, show 1074 - k + k = 1074 by omega])) (rep _ (by omega) _ (by omega))
  refine s_of (by omega) (by rw [e]; exact d.1) (by rw [e, d.2, Int.sub_mul]; omega) (by omega)
theorem fin_law {n1 n2 : Int} {m c r p N : Int64} (h1 : S n1 m c) (h2 : S n2 r p) (b1 : n1.natAbs ≤ 2 ^ 50) (b2 : n2.natAbs ≤ 2 ^ 50) (hN : N.toInt = n1 + n2) : DFin (fitn m c r p) ∧ DFin (dmul (fitn m c r p) 4683743612465315840) ∧ dcmp (dmul (fitn m c r p) 4683743612465315840) (l2d N) = some .eq := by
  have a := add (z := (n1 + n2) * ((2 ^ 1057 : Nat) : Int)) h1.2.2.1 h2.2.2.1 (by rw [h1.2.2.2, h2.2.2.2, Int.add_mul]) (rep _ (by omega) _ (by omega))
  have b := mul (z := (n1 + n2) * ((2 ^ 1074 : Nat) : Int)) a.1 finK.1 (by rw [a.2, finK.2, one64c, p3, p3]) (rep _ (by omega) _ (by omega))
  refine ⟨a.1, b.1, dcmp_eq.mpr ⟨b.1.ne_nan, (l2d_fin N).ne_nan, ?_⟩⟩
  show zval b64 (val64 (dmul (dadd _ _) _)) = _
  rw [b.2, DInt_zval (l2d_int (a := N) (by omega)), hN, one64c]
end Own
namespace Jvm.Pilot.@@N@@
open Jvm Jvm.ClassFile Sem Op Lib Jvm.Free Jvm.Stand Jvm.LawKit Jvm.RoadKit Bundle Jvm.Pilot.@@N@@.Jvm.D
def own_X (x y : Int64) : Int64 := if x < y then y else x
theorem own_xi (x y : Int64) : (own_X x y).toInt = max x.toInt y.toInt := by
  unfold own_X
  simp only [Int64.lt_iff_toInt_lt]
  split <;> omega
theorem own_sh {a : Int32} {k : Nat} (h : a.toInt = (k : Int)) (hk : k ≤ 16) : ((1 : Int64) <<< (a &&& 0x3f).toInt64).toInt = ((2 ^ k : Nat) : Int) := by
  have h1 : a.toBitVec.toNat % 64 = k := by
    have h2 : a.toBitVec.toInt = (k : Int) := h
    rw [BitVec.toInt_eq_toNat_cond] at h2
    have := a.toBitVec.isLt
    split at h2 <;> omega
  have h3 := c_lshl (1 : Int64) a k h1
  have h4 := rng64 ((1 : Int64) <<< (a &&& 0x3f).toInt64)
  have h5 : (2 ^ k : Nat) ≤ 2 ^ 16 := Nat.pow_le_pow_right (by decide) hk
  rw [show (1 : Int64).toInt = 1 from by decide] at h3
  generalize (2 ^ k : Nat) = K at *
  omega
theorem own_c {a zc p0 : Int32} {c : Int64} (ea : a = (p0 &&& (15 : Int32))) (ec : c = (if zc = (0 : Int32) then ((1 : Int64) <<< (a &&& 0x3f).toInt64) else (0 : Int64))) : (¬ zc = (0 : Int32) ∧ c = 0) ∨ (zc = (0 : Int32) ∧ ∃ k : Nat, k ≤ 15 ∧ a.toInt = (k : Int) ∧ c.toInt = ((2 ^ k : Nat) : Int)) := by
  by_cases h : zc = (0 : Int32)
  · rw [if_pos h] at ec
    have h1 := c_mask p0 (15 : Int32) 4 (by decide) (by decide)
    refine Or.inr ⟨h, a.toInt.toNat, ?_, ?_, ?_⟩
    · rw [ea]; omega
    · rw [ea]; omega
    · rw [ec]; exact own_sh (by rw [ea]; omega) (by rw [ea]; omega)
  · rw [if_neg h] at ec
    exact Or.inl ⟨h, ec⟩
theorem own_cb {c : Int64} {zc a : Int32} (h : (¬ zc = (0 : Int32) ∧ c = 0) ∨ (zc = (0 : Int32) ∧ ∃ k : Nat, k ≤ 15 ∧ a.toInt = (k : Int) ∧ c.toInt = ((2 ^ k : Nat) : Int))) : 0 ≤ c.toInt ∧ c.toInt ≤ 32768 := by
  rcases h with ⟨-, h⟩ | ⟨-, k, h1, -, h2⟩
  · rw [h]; decide
  · have h5 : (2 ^ k : Nat) ≤ 2 ^ 15 := Nat.pow_le_pow_right (by decide) h1
    generalize (2 ^ k : Nat) = K at *
    omega
theorem own_mr {c p d t m r q3 : Int64} (hc : 0 ≤ c.toInt ∧ c.toInt ≤ 32768) (hp : 0 ≤ p.toInt ∧ p.toInt ≤ 32768) (ed : d = (p - c)) (et : t = (q3 &&& (1073741823 : Int64))) (em : m = (t + (own_X (0 : Int64) (-d)))) (er : r = (t + (own_X d (0 : Int64)))) :
    (0 ≤ m.toInt ∧ m.toInt ≤ 2147483648) ∧ (0 ≤ r.toInt ∧ r.toInt ≤ 2147483648) ∧ (p - c) = (r - m) := by
  have h1 := c_lsub p c
  have h2 := c_maskL q3 (1073741823 : Int64) 30 (by decide) (by decide)
  have h3 := own_xi (0 : Int64) (-d)
  have h4 := own_xi d (0 : Int64)
  have h5 := c_lneg d
  have h6 := c_ladd t (own_X (0 : Int64) (-d))
  have h7 := c_ladd t (own_X d (0 : Int64))
  have h8 := c_lsub r m
  rw [show (0 : Int64).toInt = 0 from by decide] at h3 h4
  rw [← ed] at h1
  rw [← et] at h2
  rw [← em] at h6
  rw [← er] at h7
  have r1 := rng64 d
  have r2 := rng64 (-d)
  have r3 := rng64 m
  have r4 := rng64 r
  have r5 := rng64 (r - m)
  have hd : d.toInt = p.toInt - c.toInt := by omega
  have hd2 : (-d).toInt = -d.toInt := by omega
  have hm : m.toInt = t.toInt + max 0 (-d.toInt) := by omega
  have hr : r.toInt = t.toInt + max d.toInt 0 := by omega
  refine ⟨by omega, by omega, ?_⟩
  rw [← ed]
  apply Int64.toInt_inj.mp
  omega
theorem own_n {a : Int32} {c m n : Int64} {k : Nat} (hk : k ≤ 15) (ha : a.toInt = (k : Int)) (hc : c.toInt = ((2 ^ k : Nat) : Int)) (hm : 0 ≤ m.toInt ∧ m.toInt ≤ 2147483648) (en : n = ((c - m) * ((1 : Int64) <<< (((16 : Int32) - a) &&& 0x3f).toInt64))) :
    n.toInt = (((2 ^ k : Nat) : Int) - m.toInt) * ((2 ^ (16 - k) : Nat) : Int) ∧ ((((2 ^ k : Nat) : Int) - m.toInt) * ((2 ^ (16 - k) : Nat) : Int)).natAbs ≤ 2 ^ 49 := by
  have h5 : (2 ^ k : Nat) ≤ 2 ^ 15 := Nat.pow_le_pow_right (by decide) hk
  have h6 : (2 ^ (16 - k) : Nat) ≤ 2 ^ 16 := Nat.pow_le_pow_right (by decide) (by omega)
  have h0 := c_isub (16 : Int32) a
  rw [show (16 : Int32).toInt = 16 from by decide] at h0
  have h00 := rng32 ((16 : Int32) - a)
  have h1 := own_sh (a := (16 : Int32) - a) (k := 16 - k) (by omega) (by omega)
  have h2 := c_lsub c m
  have h3 := c_lmul (c - m) ((1 : Int64) <<< (((16 : Int32) - a) &&& 0x3f).toInt64)
  have r1 := rng64 (c - m)
  rw [← en, h1] at h3
  generalize (2 ^ k : Nat) = K at *
  generalize (2 ^ (16 - k) : Nat) = K' at *
  have h7 : (c - m).toInt = (K : Int) - m.toInt := by omega
  rw [h7] at h3
  have h8 : (((K : Int) - m.toInt) * (K' : Int)).natAbs ≤ 2 ^ 49 := by
    rw [Int.natAbs_mul]
    calc _ ≤ 2 ^ 32 * 2 ^ 16 := Nat.mul_le_mul (by omega) (by omega)
      _ ≤ 2 ^ 49 := by decide
  have r2 := rng64 n
  generalize ((K : Int) - m.toInt) * (K' : Int) = P at *
  exact ⟨by omega, h8⟩
theorem own_ns {n1 n2 : Int64} {x y : Int} (h1 : n1.toInt = x) (h2 : n2.toInt = y) (b1 : x.natAbs ≤ 2 ^ 49) (b2 : y.natAbs ≤ 2 ^ 49) : (n1 + n2).toInt = x + y := by
  have h3 := c_ladd n1 n2
  have r2 := rng64 (n1 + n2)
  omega

theorem own_nneg {x : Int64} (h : 0 ≤ x.toInt) : ¬ x < (0 : Int64) := by
  rw [Int64.lt_iff_toInt_lt, show (0 : Int64).toInt = 0 from by decide]
  omega
theorem own_dz {x : Int64} (h : ¬ x = 0) : ¬ FP.Core.DZero (FP.Core.l2d x) := fun hz => FP.Core.l2d_ne_zero h ((FP.Core.zero_bits2 _).mp hz)
theorem own_nn {x : UInt64} (h : FP.Core.DFin x) : Jvm.Free.Fl.NoNaN64 x := Jvm.Free.Fl.noNaN64_no.mpr h.notNaN
theorem d1_0 : decode jdk_29_method_66_code 0 = .ok (.lload_n 0, 1) := by decide +kernel
theorem d1_1 : decode jdk_29_method_66_code 1 = .ok (.lload_n 2, 1) := by decide +kernel
theorem d1_2 : decode jdk_29_method_66_code 2 = .ok (.lcmp, 1) := by decide +kernel
theorem d1_3 : decode jdk_29_method_66_code 3 = .ok (.ifCond .lt 7, 3) := by decide +kernel
theorem d1_6 : decode jdk_29_method_66_code 6 = .ok (.lload_n 0, 1) := by decide +kernel
theorem d1_7 : decode jdk_29_method_66_code 7 = .ok (.goto 4, 3) := by decide +kernel
theorem d1_10 : decode jdk_29_method_66_code 10 = .ok (.lload_n 2, 1) := by decide +kernel
theorem d1_11 : decode jdk_29_method_66_code 11 = .ok (.lreturn, 1) := by decide +kernel
theorem ef_1 (m : MethodId) (q0 : Int64) (q1 : Int64)  : entryFrame m #[(.long q0), (.long q1)] 4 = mkF m 0 #[.val (.long q0), .second, .val (.long q1), .second] [] := by first | (simp [entryFrame, mkF, argsToLocals, Value.category]; done) | rfl
def Q1 (Z : State) (q0 : Int64) (q1 : Int64) (h0 : Heap) (n0 : Nat) (v : Option Value) (h : Heap) (L : List Loc) : Prop := v = some (.long (own_X q0 q1)) ∧ Fr n0 L ∧ h = h0
set_option maxRecDepth 65536 in
set_option maxHeartbeats 40000000 in
theorem rm1 (l : Launch) (Z : State) (a0 : Array Value) (hw : ∀ d ∈ tables_1, d.before a0 Z = true) (ws : List Jvm.Cond) (q0 : Int64) (q1 : Int64) (h0 : Heap) (n0 : Nat) (Z0 : n0 ≤ h0.size) :
    MetFree l (⟨"java/lang/Math", "max", "(JJ)J"⟩ : MethodName) (head1 (Jvm.Cond.code (⟨"java/lang/Math", "max", "(JJ)J"⟩ : MethodName) jdk_29_method_66_code 4 (some .long) :: ws) ({ frames := 0, cells := 0, slots := 0, locals := 0 } : Room)) (fun a U => a = #[(.long q0), (.long q1)] ∧ Z.Warmed39 U.vm ∧ U.heap = h0) (fun _ _ _ _ _ => True) (fun _ U o U' => ∃ v L, o = .returned v ∧ Q1 Z q0 q1 h0 n0 v U'.heap L ∧ FrameEnd U o U' L ({ frames := 0, cells := 0, slots := 0, locals := 0 } : Room).cells ({ frames := 0, cells := 0, slots := 0, locals := 0 } : Room).slots) := by
  refine MetFree.of_bodySF (Jvm.Free.JP.mathPlain rfl (by decide +kernel)) hisR ?_
  intro p e s m args below meth c s₁ Bd hml0 hP hK
  obtain ⟨rfl, hZ, hh⟩ := hP
  have hx := Bd.exec
  have hby := Bd.bytes
  have hml : c.maxLocals = 4 := hml0
  have hown : s.vm.findClass "java/lang/Math" = some m.cls := findClass_of_methodNamed Bd.named
  have hnm := (name_of_methodNamed Bd.named Bd.method).1
  have X0 : Stand p l e ({ frames := 0, cells := 0, slots := 0, locals := 0 } : Room) s m #[(.long q0), (.long q1)] below meth c s₁ [] 0 0 := Stand.of_body Bd
  have e0 : s₁.heap = h0 := by rw [← hh, Bd.state]; rfl
  have N0 := Fr.nil n0
  have pre0 : ∀ t, Steps p.tables e below (s₁.setTop (mkF m 0 #[.val (.long q0), .second, .val (.long q1), .second] [])) t → Steps p.tables e below (s₁.setTop (entryFrame m #[(.long q0), (.long q1)] 4)) t := fun t k => castTop (ef_1 m q0 q1) k
  show Done p e below _ _
  refine Done.of ?_ pre0
  have J3_1 : ∀ wj : Int64, wj = (if q0 < q1 then q1 else q0) → ∀ target, Steps p.tables e below (s₁.setTop (mkF m 11 #[.val (.long q0), .second, .val (.long q1), .second] [(.long wj)])) target → Steps p.tables e below (s₁.setTop (mkF m 3 #[.val (.long q0), .second, .val (.long q1), .second] [(.int (lcmpW q0 q1))])) target := by
    intro wj hw0 target kt
    by_cases hj3 : q0 < q1
    · rw [if_pos hj3] at hw0
      show Steps p.tables e below (s₁.setTop (mkF m 3 #[.val (.long q0), .second, .val (.long q1), .second] [(.int (lcmpW q0 q1))])) _
      refine XS.ifYes X0.here hx rfl (pc0 := 3) (pc' := 10) rfl (hb hby d1_3) rfl ((if0 _ _).trans (tlt ((lw_lt q0 q1).mpr hj3)).1) (by decide) (by decide) ?_
      show Steps p.tables e below (s₁.setTop (mkF m 10 #[.val (.long q0), .second, .val (.long q1), .second] [])) _
      refine XS.lloadN X0.here hx rfl (hb hby d1_10) rfl ?_
      rw [hw0] at kt
      exact kt
    · rw [if_neg hj3] at hw0
      show Steps p.tables e below (s₁.setTop (mkF m 3 #[.val (.long q0), .second, .val (.long q1), .second] [(.int (lcmpW q0 q1))])) _
      refine XS.ifNo X0.here hx rfl (hb hby d1_3) rfl ((if0 _ _).trans (flt (fun q => hj3 ((lw_lt q0 q1).mp q))).1) ?_
      show Steps p.tables e below (s₁.setTop (mkF m 6 #[.val (.long q0), .second, .val (.long q1), .second] [])) _
      refine XS.lloadN X0.here hx rfl (hb hby d1_6) rfl ?_
      show Steps p.tables e below (s₁.setTop (mkF m 7 #[.val (.long q0), .second, .val (.long q1), .second] [(.long q0)])) _
      refine XS.goto X0.here hx rfl (pc0 := 7) (pc' := 11) rfl (hb hby d1_7) (by decide) (by decide) ?_
      rw [hw0] at kt
      exact kt
  obtain ⟨fs, hr, hrun, hended, hW, hsame⟩ := X0.leave (v := some (.long (if q0 < q1 then q1 else q0))) (fun h => by rw [Bd.returns] at h; cases h)
  refine ⟨_, _, ?_, hrun, hended, _, _, rfl, ?_, ⟨_, rfl⟩, hW, hsame.mono (by decide) (by decide)⟩
  · show Steps p.tables e below (s₁.setTop (mkF m 0 #[.val (.long q0), .second, .val (.long q1), .second] [])) _
    refine XS.lloadN X0.here hx rfl (hb hby d1_0) rfl ?_
    show Steps p.tables e below (s₁.setTop (mkF m 1 #[.val (.long q0), .second, .val (.long q1), .second] [(.long q0)])) _
    refine XS.lloadN X0.here hx rfl (hb hby d1_1) rfl ?_
    show Steps p.tables e below (s₁.setTop (mkF m 2 #[.val (.long q0), .second, .val (.long q1), .second] [(.long q1), (.long q0)])) _
    refine XS.lcmp X0.here hx rfl (hb hby d1_2) rfl ?_
    show Steps p.tables e below (s₁.setTop (mkF m 3 #[.val (.long q0), .second, .val (.long q1), .second] [(.int (lcmpW q0 q1))])) _
    refine J3_1 _ rfl _ ?_
    show Steps p.tables e below (s₁.setTop (mkF m 11 #[.val (.long q0), .second, .val (.long q1), .second] [(.long (if q0 < q1 then q1 else q0))])) _
    jvm_step X0.here [X0.here.top, hx, (hb hby d1_11), X0.method', Bd.returns, narrow]
    first | (intro acts; rw [hr _ acts rfl rfl rfl]) | rw [hr _ _ rfl rfl rfl]
    exact Steps.refl _
  · show Q1 Z q0 q1  h0 n0 _ s₁.heap _
    rw [e0]
    refine ⟨?_, N0, rfl⟩
    rfl
theorem d3_0 : decode jdk_30_method_1_code 0 = .ok (.aload_n 0, 1) := by decide +kernel
theorem d3_1 : decode jdk_30_method_1_code 1 = .ok (.invokespecial 1, 3) := by decide +kernel
theorem d3_4 : decode jdk_30_method_1_code 4 = .ok (.return_, 1) := by decide +kernel
theorem pn_3 : plainName "java/lang/Record" = true := by first | (simp [plainName, overriddenIn]; done) | decide +kernel
theorem ef_3 (m : MethodId) (u0 : Addr)  : entryFrame m #[(.ref u0)] 1 = mkF m 0 #[.val (.ref u0)] [] := by first | (simp [entryFrame, mkF, argsToLocals, Value.category]; done) | rfl
def Q3 (Z : State) (u0 : Addr) (h0 : Heap) (n0 : Nat) (v : Option Value) (h : Heap) (L : List Loc) : Prop := v = none ∧ Fr n0 L ∧ h = h0
set_option maxRecDepth 65536 in
set_option maxHeartbeats 40000000 in
theorem rm3 (l : Launch) (Z : State) (a0 : Array Value) (hw : ∀ d ∈ tables_1, d.before a0 Z = true) (ws : List Jvm.Cond) (u0 : Addr) (h0 : Heap) (n0 : Nat) (Z0 : n0 ≤ h0.size) :
    MetFree l (⟨"java/lang/Record", "<init>", "()V"⟩ : MethodName) (head1 (Jvm.Cond.code (⟨"java/lang/Record", "<init>", "()V"⟩ : MethodName) jdk_30_method_1_code 1 none :: ws) ({ frames := 1, cells := 0, slots := 0, locals := 12 } : Room)) (fun a U => a = #[(.ref u0)] ∧ Z.Warmed39 U.vm ∧ U.heap = h0) (fun _ _ _ _ _ => True) (fun _ U o U' => ∃ v L, o = .returned v ∧ Q3 Z u0 h0 n0 v U'.heap L ∧ FrameEnd U o U' L ({ frames := 1, cells := 0, slots := 0, locals := 12 } : Room).cells ({ frames := 1, cells := 0, slots := 0, locals := 12 } : Room).slots) := by
  refine MetFree.of_bodySF (plainFor_of_name pn_3) hisR ?_
  intro p e s m args below meth c s₁ Bd hml0 hP hK
  obtain ⟨rfl, hZ, hh⟩ := hP
  have hx := Bd.exec
  have hby := Bd.bytes
  have hml : c.maxLocals = 1 := hml0
  have hown : s.vm.findClass "java/lang/Record" = some m.cls := findClass_of_methodNamed Bd.named
  have hnm := (name_of_methodNamed Bd.named Bd.method).1
  have X0 : Stand p l e ({ frames := 1, cells := 0, slots := 0, locals := 12 } : Room) s m #[(.ref u0)] below meth c s₁ [] 0 0 := Stand.of_body Bd
  have e0 : s₁.heap = h0 := by rw [← hh, Bd.state]; rfl
  have N0 := Fr.nil n0
  have pre0 : ∀ t, Steps p.tables e below (s₁.setTop (mkF m 0 #[.val (.ref u0)] [])) t → Steps p.tables e below (s₁.setTop (entryFrame m #[(.ref u0)] 1)) t := fun t k => castTop (ef_3 m u0) k
  show Done p e below _ _
  refine Done.of ?_ pre0
  obtain ⟨T1, X1, e1, st1⟩ := initO X0 hx hZ hown (hw _ (List.mem_of_getElem? (i := 16) rfl)) (hw _ (List.mem_of_getElem? (i := 17) rfl)) (hw _ (List.mem_of_getElem? (i := 18) rfl)) e0 (g := (mkF m 1 #[.val (.ref u0)] [(.ref u0)])) rfl (by rw [hml]; rfl) rfl (hb hby d3_1) (by decide) (W := 0) (by show 2 * 0 + _ ≤ _; exact Nat.le_of_eq rfl) (by decide)
  obtain ⟨fs, hr, hrun, hended, hW, hsame⟩ := X1.leave (v := none) (fun _ => rfl)
  refine ⟨_, _, ?_, hrun, hended, _, _, rfl, ?_, ⟨_, rfl⟩, hW, hsame.mono (by decide) (by decide)⟩
  · show Steps p.tables e below (s₁.setTop (mkF m 0 #[.val (.ref u0)] [])) _
    refine XS.aloadN X0.here hx rfl (hb hby d3_0) rfl rfl ?_
    show Steps p.tables e below (s₁.setTop (mkF m 1 #[.val (.ref u0)] [(.ref u0)])) _
    refine st1 _ ?_
    show Steps p.tables e below (T1.setTop (mkF m 4 #[.val (.ref u0)] [])) _
    exact X1.returnOut hx Bd.returns (hb hby d3_4) hr
  · show Q3 Z u0  h0 n0 _ T1.heap _
    rw [e1]
    refine ⟨?_, N0, rfl⟩
    rfl
theorem d2_0 : decode prog_22_method_1_code 0 = .ok (.aload_n 0, 1) := by decide +kernel
theorem d2_1 : decode prog_22_method_1_code 1 = .ok (.invokespecial 1, 3) := by decide +kernel
theorem d2_4 : decode prog_22_method_1_code 4 = .ok (.lload_n 1, 1) := by decide +kernel
theorem d2_5 : decode prog_22_method_1_code 5 = .ok (.lconst 0, 1) := by decide +kernel
theorem d2_6 : decode prog_22_method_1_code 6 = .ok (.lcmp, 1) := by decide +kernel
theorem d2_7 : decode prog_22_method_1_code 7 = .ok (.ifCond .lt 23, 3) := by decide +kernel
theorem d2_10 : decode prog_22_method_1_code 10 = .ok (.lload_n 3, 1) := by decide +kernel
theorem d2_11 : decode prog_22_method_1_code 11 = .ok (.lconst 0, 1) := by decide +kernel
theorem d2_12 : decode prog_22_method_1_code 12 = .ok (.lcmp, 1) := by decide +kernel
theorem d2_13 : decode prog_22_method_1_code 13 = .ok (.ifCond .lt 17, 3) := by decide +kernel
theorem d2_16 : decode prog_22_method_1_code 16 = .ok (.lload 5, 2) := by decide +kernel
theorem d2_18 : decode prog_22_method_1_code 18 = .ok (.lconst 0, 1) := by decide +kernel
theorem d2_19 : decode prog_22_method_1_code 19 = .ok (.lcmp, 1) := by decide +kernel
theorem d2_20 : decode prog_22_method_1_code 20 = .ok (.ifCond .lt 10, 3) := by decide +kernel
theorem d2_23 : decode prog_22_method_1_code 23 = .ok (.lload 7, 2) := by decide +kernel
theorem d2_25 : decode prog_22_method_1_code 25 = .ok (.lconst 0, 1) := by decide +kernel
theorem d2_26 : decode prog_22_method_1_code 26 = .ok (.lcmp, 1) := by decide +kernel
theorem d2_27 : decode prog_22_method_1_code 27 = .ok (.ifCond .ge 25, 3) := by decide +kernel
theorem d2_52 : decode prog_22_method_1_code 52 = .ok (.lload_n 3, 1) := by decide +kernel
theorem d2_53 : decode prog_22_method_1_code 53 = .ok (.lload_n 1, 1) := by decide +kernel
theorem d2_54 : decode prog_22_method_1_code 54 = .ok (.lsub, 1) := by decide +kernel
theorem d2_55 : decode prog_22_method_1_code 55 = .ok (.lload 7, 2) := by decide +kernel
theorem d2_57 : decode prog_22_method_1_code 57 = .ok (.lload 5, 2) := by decide +kernel
theorem d2_59 : decode prog_22_method_1_code 59 = .ok (.lsub, 1) := by decide +kernel
theorem d2_60 : decode prog_22_method_1_code 60 = .ok (.lcmp, 1) := by decide +kernel
theorem d2_61 : decode prog_22_method_1_code 61 = .ok (.ifCond .eq 25, 3) := by decide +kernel
theorem d2_86 : decode prog_22_method_1_code 86 = .ok (.aload_n 0, 1) := by decide +kernel
theorem d2_87 : decode prog_22_method_1_code 87 = .ok (.lload_n 1, 1) := by decide +kernel
theorem d2_88 : decode prog_22_method_1_code 88 = .ok (.putfield 23, 3) := by decide +kernel
theorem d2_91 : decode prog_22_method_1_code 91 = .ok (.aload_n 0, 1) := by decide +kernel
theorem d2_92 : decode prog_22_method_1_code 92 = .ok (.lload_n 3, 1) := by decide +kernel
theorem d2_93 : decode prog_22_method_1_code 93 = .ok (.putfield 27, 3) := by decide +kernel
theorem d2_96 : decode prog_22_method_1_code 96 = .ok (.aload_n 0, 1) := by decide +kernel
theorem d2_97 : decode prog_22_method_1_code 97 = .ok (.lload 5, 2) := by decide +kernel
theorem d2_99 : decode prog_22_method_1_code 99 = .ok (.putfield 30, 3) := by decide +kernel
theorem d2_102 : decode prog_22_method_1_code 102 = .ok (.aload_n 0, 1) := by decide +kernel
theorem d2_103 : decode prog_22_method_1_code 103 = .ok (.lload 7, 2) := by decide +kernel
theorem d2_105 : decode prog_22_method_1_code 105 = .ok (.putfield 33, 3) := by decide +kernel
theorem d2_108 : decode prog_22_method_1_code 108 = .ok (.return_, 1) := by decide +kernel
theorem pn_2 : plainName "com/example/ensyn/ensyn/replay/TokenCounts" = true := by first | (simp [plainName, overriddenIn]; done) | decide +kernel
theorem pd_0 : parseMethodDescriptor "()V" = some ⟨[], none⟩ := by decide +kernel
theorem ef_2 (m : MethodId) (u0 : Addr) (q1 : Int64) (q2 : Int64) (q3 : Int64) (q4 : Int64)  : entryFrame m #[(.ref u0), (.long q1), (.long q2), (.long q3), (.long q4)] 9 = mkF m 0 #[.val (.ref u0), .val (.long q1), .second, .val (.long q2), .second, .val (.long q3), .second, .val (.long q4), .second] [] := by first | (simp [entryFrame, mkF, argsToLocals, Value.category]; done) | rfl
def Q2 (Z : State) (u0 : Addr) (q1 : Int64) (q2 : Int64) (q3 : Int64) (q4 : Int64) (h0 : Heap) (n0 : Nat) (v : Option Value) (h : Heap) (L : List Loc) : Prop := v = none ∧ Fr n0 L ∧ Keep h0 h [u0] ∧ Exa Z h u0 "com/example/ensyn/ensyn/replay/TokenCounts" ∧ Fld Z h u0 "com/example/ensyn/ensyn/replay/TokenCounts" "consumed" "J" (.long q1) ∧ Fld Z h u0 "com/example/ensyn/ensyn/replay/TokenCounts" "produced" "J" (.long q2) ∧ Fld Z h u0 "com/example/ensyn/ensyn/replay/TokenCounts" "missing" "J" (.long q3) ∧ Fld Z h u0 "com/example/ensyn/ensyn/replay/TokenCounts" "remaining" "J" (.long q4)
set_option maxRecDepth 65536 in
set_option maxHeartbeats 40000000 in
theorem rm2 (l : Launch) (Z : State) (a0 : Array Value) (hw : ∀ d ∈ tables_1, d.before a0 Z = true) (ws : List Jvm.Cond) (u0 : Addr) (q1 : Int64) (q2 : Int64) (q3 : Int64) (q4 : Int64) (h0 : Heap) (n0 : Nat) (Z0 : n0 ≤ h0.size) (E0 : Exa Z h0 u0 "com/example/ensyn/ensyn/replay/TokenCounts") (g0 : n0 ≤ u0) (F_consumed : Fld Z h0 u0 "com/example/ensyn/ensyn/replay/TokenCounts" "consumed" "J" (.long (0 : Int64))) (F_produced : Fld Z h0 u0 "com/example/ensyn/ensyn/replay/TokenCounts" "produced" "J" (.long (0 : Int64))) (F_missing : Fld Z h0 u0 "com/example/ensyn/ensyn/replay/TokenCounts" "missing" "J" (.long (0 : Int64))) (F_remaining : Fld Z h0 u0 "com/example/ensyn/ensyn/replay/TokenCounts" "remaining" "J" (.long (0 : Int64))) (h1 : ¬ q1 < (0 : Int64)) (h2 : ¬ q2 < (0 : Int64)) (h3 : ¬ q3 < (0 : Int64)) (h4 : ¬ q4 < (0 : Int64)) (h5 : (q2 - q1) = (q4 - q3)) :
    MetFree l (⟨"com/example/ensyn/ensyn/replay/TokenCounts", "<init>", "(JJJJ)V"⟩ : MethodName) (head1 (Jvm.Cond.code (⟨"com/example/ensyn/ensyn/replay/TokenCounts", "<init>", "(JJJJ)V"⟩ : MethodName) prog_22_method_1_code 9 none :: ws) ({ frames := 2, cells := 0, slots := 0, locals := 24 } : Room)) (fun a U => a = #[(.ref u0), (.long q1), (.long q2), (.long q3), (.long q4)] ∧ Z.Warmed39 U.vm ∧ U.heap = h0) (fun _ _ _ _ _ => True) (fun _ U o U' => ∃ v L, o = .returned v ∧ Q2 Z u0 q1 q2 q3 q4 h0 n0 v U'.heap L ∧ FrameEnd U o U' L ({ frames := 2, cells := 0, slots := 0, locals := 24 } : Room).cells ({ frames := 2, cells := 0, slots := 0, locals := 24 } : Room).slots) := by
  refine MetFree.of_bodySF (plainFor_of_name pn_2) hisR ?_
  intro p e s m args below meth c s₁ Bd hml0 hP hK
  obtain ⟨rfl, hZ, hh⟩ := hP
  have hx := Bd.exec
  have hby := Bd.bytes
  have hml : c.maxLocals = 9 := hml0
  have hown : s.vm.findClass "com/example/ensyn/ensyn/replay/TokenCounts" = some m.cls := findClass_of_methodNamed Bd.named
  have hnm := (name_of_methodNamed Bd.named Bd.method).1
  have X0 : Stand p l e ({ frames := 2, cells := 0, slots := 0, locals := 24 } : Room) s m #[(.ref u0), (.long q1), (.long q2), (.long q3), (.long q4)] below meth c s₁ [] 0 0 := Stand.of_body Bd
  have e0 : s₁.heap = h0 := by rw [← hh, Bd.state]; rfl
  have N0 := Fr.nil n0
  have pre0 : ∀ t, Steps p.tables e below (s₁.setTop (mkF m 0 #[.val (.ref u0), .val (.long q1), .second, .val (.long q2), .second, .val (.long q3), .second, .val (.long q4), .second] [])) t → Steps p.tables e below (s₁.setTop (entryFrame m #[(.ref u0), (.long q1), (.long q2), (.long q3), (.long q4)] 9)) t := fun t k => castTop (ef_2 m u0 q1 q2 q3 q4) k
  show Done p e below _ _
  refine Done.of ?_ pre0
  obtain ⟨_, _, ⟨T1, L1, k1, n1⟩, -, X1, ⟨Lc1, hQ1, l1, y1, z1⟩, st1⟩ := X0.specialBack hx (y := (⟨"java/lang/Record", "<init>", "()V"⟩ : MethodName)) rfl hown (mvT hZ (hw _ (List.mem_of_getElem? (i := 11) rfl))) (mvT hZ (hw _ (List.mem_of_getElem? (i := 12) rfl))) (mvT hZ (hw _ (List.mem_of_getElem? (i := 15) rfl))) (by decide) (backOf (W := 0) (rm3 l Z a0 hw [] u0 h0 n0 Z0 ) hZ (hw _ (List.mem_of_getElem? (i := 15) rfl)) (hw _ (List.mem_of_getElem? (i := 14) rfl)) (by decide) (by decide)) (g := (mkF m 1 #[.val (.ref u0), .val (.long q1), .second, .val (.long q2), .second, .val (.long q3), .second, .val (.long q4), .second] [(.ref u0)])) rfl (by rw [hml]; rfl) (Steps.refl _) (a := u0) (argsL := []) (rest := []) (lenOf pd_0 rfl) rfl (by show 2 * 0 + _ ≤ _; exact Nat.le_of_eq rfl) (hb hby d2_1) (fun _ _ => ⟨rfl, e0, (by decide : 0 + 0 ≤ _), (by decide : 0 + 0 ≤ _)⟩)
  dsimp only [Pt.U, Pt.locs, Pt.cells, Pt.slots] at X1 l1 y1 z1 st1 hQ1
  rw [l1, y1, z1] at X1
  obtain ⟨rfl, N1q, e1⟩ := hQ1
  have N1 := Fr.app N0 N1q
  have hd7_2 : ¬ (q1 < (0 : Int64)) := by exact h1
  have hd13_3 : ¬ (q2 < (0 : Int64)) := by exact h2
  have hd20_4 : ¬ (q3 < (0 : Int64)) := by exact h3
  have hd27_5 : ¬ (q4 < (0 : Int64)) := by exact h4
  have hd61_6 : (q2 - q1) = (q4 - q3) := by exact h5
  obtain ⟨T7, h7, X7, e7, W7, st7⟩ := putF X1 hx hZ hown (host := "") (Or.inl (hw _ (List.mem_of_getElem? (i := 19) rfl))) Via.refl e1 F_consumed E0 (Or.inr ⟨(hw _ (List.mem_of_getElem? (i := 20) rfl)), rfl, hnm⟩) (hw _ (List.mem_of_getElem? (i := 6) rfl)) (ty := .long) (by decide) rfl rfl (g := (mkF m 88 #[.val (.ref u0), .val (.long q1), .second, .val (.long q2), .second, .val (.long q3), .second, .val (.long q4), .second] [(.long q1), (.ref u0)])) rfl rfl (hb hby d2_88)
  have Fw7 := Fld.same W7 F_consumed
  have N7 := Fr.snoc X7 N1 g0
  have Z7 : n0 ≤ h7.size := Nat.le_trans Z0 (Nat.le_of_eq W7.size.symm)
  have Kp7 := (Keep.refl h0 [u0]).wr W7 (Or.inl (List.mem_of_getElem? (i := 0) rfl))
  obtain ⟨T8, h8, X8, e8, W8, st8⟩ := putF X7 hx hZ hown (host := "") (Or.inl (hw _ (List.mem_of_getElem? (i := 21) rfl))) Via.refl e7 (F_produced.other W7 (Or.inr (slot_ne (Or.inr (hw _ (List.mem_of_getElem? (i := 22) rfl))) (Or.inr (hw _ (List.mem_of_getElem? (i := 20) rfl))) (by decide) (t := .long) (t' := .long) (by decide) (by decide)))) (E0.wr W7) (Or.inr ⟨(hw _ (List.mem_of_getElem? (i := 22) rfl)), rfl, hnm⟩) (hw _ (List.mem_of_getElem? (i := 6) rfl)) (ty := .long) (by decide) rfl rfl (g := (mkF m 93 #[.val (.ref u0), .val (.long q1), .second, .val (.long q2), .second, .val (.long q3), .second, .val (.long q4), .second] [(.long q2), (.ref u0)])) rfl rfl (hb hby d2_93)
  have Fw8 := Fld.same W8 (F_produced.other W7 (Or.inr (slot_ne (Or.inr (hw _ (List.mem_of_getElem? (i := 22) rfl))) (Or.inr (hw _ (List.mem_of_getElem? (i := 20) rfl))) (by decide) (t := .long) (t' := .long) (by decide) (by decide))))
  have N8 := Fr.snoc X8 N7 g0
  have Z8 : n0 ≤ h8.size := Nat.le_trans Z7 (Nat.le_of_eq W8.size.symm)
  have Kp8 := Kp7.wr W8 (Or.inl (List.mem_of_getElem? (i := 0) rfl))
  have cy9 := (F_missing.other W7 (Or.inr (slot_ne (Or.inr (hw _ (List.mem_of_getElem? (i := 24) rfl))) (Or.inr (hw _ (List.mem_of_getElem? (i := 20) rfl))) (by decide) (t := .long) (t' := .long) (by decide) (by decide))))
  have cy10 := (cy9.other W8 (Or.inr (slot_ne (Or.inr (hw _ (List.mem_of_getElem? (i := 24) rfl))) (Or.inr (hw _ (List.mem_of_getElem? (i := 22) rfl))) (by decide) (t := .long) (t' := .long) (by decide) (by decide))))
  have cy11 := (E0.wr W7)
  have cy12 := (cy11.wr W8)
  obtain ⟨T13, h13, X13, e13, W13, st13⟩ := putF X8 hx hZ hown (host := "") (Or.inl (hw _ (List.mem_of_getElem? (i := 23) rfl))) Via.refl e8 cy10 cy12 (Or.inr ⟨(hw _ (List.mem_of_getElem? (i := 24) rfl)), rfl, hnm⟩) (hw _ (List.mem_of_getElem? (i := 6) rfl)) (ty := .long) (by decide) rfl rfl (g := (mkF m 99 #[.val (.ref u0), .val (.long q1), .second, .val (.long q2), .second, .val (.long q3), .second, .val (.long q4), .second] [(.long q3), (.ref u0)])) rfl rfl (hb hby d2_99)
  have Fw13 := Fld.same W13 cy10
  have N13 := Fr.snoc X13 N8 g0
  have Z13 : n0 ≤ h13.size := Nat.le_trans Z8 (Nat.le_of_eq W13.size.symm)
  have Kp13 := Kp8.wr W13 (Or.inl (List.mem_of_getElem? (i := 0) rfl))
  have cy14 := (F_remaining.other W7 (Or.inr (slot_ne (Or.inr (hw _ (List.mem_of_getElem? (i := 26) rfl))) (Or.inr (hw _ (List.mem_of_getElem? (i := 20) rfl))) (by decide) (t := .long) (t' := .long) (by decide) (by decide))))
  have cy15 := (cy14.other W8 (Or.inr (slot_ne (Or.inr (hw _ (List.mem_of_getElem? (i := 26) rfl))) (Or.inr (hw _ (List.mem_of_getElem? (i := 22) rfl))) (by decide) (t := .long) (t' := .long) (by decide) (by decide))))
  have cy16 := (cy15.other W13 (Or.inr (slot_ne (Or.inr (hw _ (List.mem_of_getElem? (i := 26) rfl))) (Or.inr (hw _ (List.mem_of_getElem? (i := 24) rfl))) (by decide) (t := .long) (t' := .long) (by decide) (by decide))))
  obtain ⟨T17, h17, X17, e17, W17, st17⟩ := putF X13 hx hZ hown (host := "") (Or.inl (hw _ (List.mem_of_getElem? (i := 25) rfl))) Via.refl e13 cy16 (cy12.wr W13) (Or.inr ⟨(hw _ (List.mem_of_getElem? (i := 26) rfl)), rfl, hnm⟩) (hw _ (List.mem_of_getElem? (i := 6) rfl)) (ty := .long) (by decide) rfl rfl (g := (mkF m 105 #[.val (.ref u0), .val (.long q1), .second, .val (.long q2), .second, .val (.long q3), .second, .val (.long q4), .second] [(.long q4), (.ref u0)])) rfl rfl (hb hby d2_105)
  have Fw17 := Fld.same W17 cy16
  have N17 := Fr.snoc X17 N13 g0
  have Z17 : n0 ≤ h17.size := Nat.le_trans Z13 (Nat.le_of_eq W17.size.symm)
  have Kp17 := Kp13.wr W17 (Or.inl (List.mem_of_getElem? (i := 0) rfl))
  obtain ⟨fs, hr, hrun, hended, hW, hsame⟩ := X17.leave (v := none) (fun _ => rfl)
  refine ⟨_, _, ?_, hrun, hended, _, _, rfl, ?_, ⟨_, rfl⟩, hW, hsame.mono (by decide) (by decide)⟩
  · show Steps p.tables e below (s₁.setTop (mkF m 0 #[.val (.ref u0), .val (.long q1), .second, .val (.long q2), .second, .val (.long q3), .second, .val (.long q4), .second] [])) _
    refine XS.aloadN X0.here hx rfl (hb hby d2_0) rfl rfl ?_
    show Steps p.tables e below (s₁.setTop (mkF m 1 #[.val (.ref u0), .val (.long q1), .second, .val (.long q2), .second, .val (.long q3), .second, .val (.long q4), .second] [(.ref u0)])) _
    refine st1.trans ?_
    show Steps p.tables e below (T1.setTop (mkF m 4 #[.val (.ref u0), .val (.long q1), .second, .val (.long q2), .second, .val (.long q3), .second, .val (.long q4), .second] [])) _
    refine XS.lloadN X1.here hx rfl (hb hby d2_4) rfl ?_
    show Steps p.tables e below (T1.setTop (mkF m 5 #[.val (.ref u0), .val (.long q1), .second, .val (.long q2), .second, .val (.long q3), .second, .val (.long q4), .second] [(.long q1)])) _
    refine XS.lconst X1.here hx rfl (hb hby d2_5) ?_
    show Steps p.tables e below (T1.setTop (mkF m 6 #[.val (.ref u0), .val (.long q1), .second, .val (.long q2), .second, .val (.long q3), .second, .val (.long q4), .second] [(.long (0 : Int64)), (.long q1)])) _
    refine XS.lcmp X1.here hx rfl (hb hby d2_6) rfl ?_
    show Steps p.tables e below (T1.setTop (mkF m 7 #[.val (.ref u0), .val (.long q1), .second, .val (.long q2), .second, .val (.long q3), .second, .val (.long q4), .second] [(.int (lcmpW q1 (0 : Int64)))])) _
    refine XS.ifNo X1.here hx rfl (hb hby d2_7) rfl ((if0 _ _).trans (flt (fun q => hd7_2 ((lw_lt q1 (0 : Int64)).mp q))).1) ?_
    show Steps p.tables e below (T1.setTop (mkF m 10 #[.val (.ref u0), .val (.long q1), .second, .val (.long q2), .second, .val (.long q3), .second, .val (.long q4), .second] [])) _
    refine XS.lloadN X1.here hx rfl (hb hby d2_10) rfl ?_
    show Steps p.tables e below (T1.setTop (mkF m 11 #[.val (.ref u0), .val (.long q1), .second, .val (.long q2), .second, .val (.long q3), .second, .val (.long q4), .second] [(.long q2)])) _
    refine XS.lconst X1.here hx rfl (hb hby d2_11) ?_
    show Steps p.tables e below (T1.setTop (mkF m 12 #[.val (.ref u0), .val (.long q1), .second, .val (.long q2), .second, .val (.long q3), .second, .val (.long q4), .second] [(.long (0 : Int64)), (.long q2)])) _
    refine XS.lcmp X1.here hx rfl (hb hby d2_12) rfl ?_
    show Steps p.tables e below (T1.setTop (mkF m 13 #[.val (.ref u0), .val (.long q1), .second, .val (.long q2), .second, .val (.long q3), .second, .val (.long q4), .second] [(.int (lcmpW q2 (0 : Int64)))])) _
    refine XS.ifNo X1.here hx rfl (hb hby d2_13) rfl ((if0 _ _).trans (flt (fun q => hd13_3 ((lw_lt q2 (0 : Int64)).mp q))).1) ?_
    show Steps p.tables e below (T1.setTop (mkF m 16 #[.val (.ref u0), .val (.long q1), .second, .val (.long q2), .second, .val (.long q3), .second, .val (.long q4), .second] [])) _
    refine XS.lload X1.here hx rfl (hb hby d2_16) rfl ?_
    show Steps p.tables e below (T1.setTop (mkF m 18 #[.val (.ref u0), .val (.long q1), .second, .val (.long q2), .second, .val (.long q3), .second, .val (.long q4), .second] [(.long q3)])) _
    refine XS.lconst X1.here hx rfl (hb hby d2_18) ?_
    show Steps p.tables e below (T1.setTop (mkF m 19 #[.val (.ref u0), .val (.long q1), .second, .val (.long q2), .second, .val (.long q3), .second, .val (.long q4), .second] [(.long (0 : Int64)), (.long q3)])) _
    refine XS.lcmp X1.here hx rfl (hb hby d2_19) rfl ?_
    show Steps p.tables e below (T1.setTop (mkF m 20 #[.val (.ref u0), .val (.long q1), .second, .val (.long q2), .second, .val (.long q3), .second, .val (.long q4), .second] [(.int (lcmpW q3 (0 : Int64)))])) _
    refine XS.ifNo X1.here hx rfl (hb hby d2_20) rfl ((if0 _ _).trans (flt (fun q => hd20_4 ((lw_lt q3 (0 : Int64)).mp q))).1) ?_
    show Steps p.tables e below (T1.setTop (mkF m 23 #[.val (.ref u0), .val (.long q1), .second, .val (.long q2), .second, .val (.long q3), .second, .val (.long q4), .second] [])) _
    refine XS.lload X1.here hx rfl (hb hby d2_23) rfl ?_
    show Steps p.tables e below (T1.setTop (mkF m 25 #[.val (.ref u0), .val (.long q1), .second, .val (.long q2), .second, .val (.long q3), .second, .val (.long q4), .second] [(.long q4)])) _
    refine XS.lconst X1.here hx rfl (hb hby d2_25) ?_
    show Steps p.tables e below (T1.setTop (mkF m 26 #[.val (.ref u0), .val (.long q1), .second, .val (.long q2), .second, .val (.long q3), .second, .val (.long q4), .second] [(.long (0 : Int64)), (.long q4)])) _
    refine XS.lcmp X1.here hx rfl (hb hby d2_26) rfl ?_
    show Steps p.tables e below (T1.setTop (mkF m 27 #[.val (.ref u0), .val (.long q1), .second, .val (.long q2), .second, .val (.long q3), .second, .val (.long q4), .second] [(.int (lcmpW q4 (0 : Int64)))])) _
    refine XS.ifYes X1.here hx rfl (pc0 := 27) (pc' := 52) rfl (hb hby d2_27) rfl ((if0 _ _).trans (flt (fun q => hd27_5 ((lw_lt q4 (0 : Int64)).mp q))).2.1) (by decide) (by decide) ?_
    show Steps p.tables e below (T1.setTop (mkF m 52 #[.val (.ref u0), .val (.long q1), .second, .val (.long q2), .second, .val (.long q3), .second, .val (.long q4), .second] [])) _
    refine XS.lloadN X1.here hx rfl (hb hby d2_52) rfl ?_
    show Steps p.tables e below (T1.setTop (mkF m 53 #[.val (.ref u0), .val (.long q1), .second, .val (.long q2), .second, .val (.long q3), .second, .val (.long q4), .second] [(.long q2)])) _
    refine XS.lloadN X1.here hx rfl (hb hby d2_53) rfl ?_
    show Steps p.tables e below (T1.setTop (mkF m 54 #[.val (.ref u0), .val (.long q1), .second, .val (.long q2), .second, .val (.long q3), .second, .val (.long q4), .second] [(.long q1), (.long q2)])) _
    refine XS.lsub X1.here hx rfl (hb hby d2_54) rfl ?_
    show Steps p.tables e below (T1.setTop (mkF m 55 #[.val (.ref u0), .val (.long q1), .second, .val (.long q2), .second, .val (.long q3), .second, .val (.long q4), .second] [(.long (q2 - q1))])) _
    refine XS.lload X1.here hx rfl (hb hby d2_55) rfl ?_
    show Steps p.tables e below (T1.setTop (mkF m 57 #[.val (.ref u0), .val (.long q1), .second, .val (.long q2), .second, .val (.long q3), .second, .val (.long q4), .second] [(.long q4), (.long (q2 - q1))])) _
    refine XS.lload X1.here hx rfl (hb hby d2_57) rfl ?_
    show Steps p.tables e below (T1.setTop (mkF m 59 #[.val (.ref u0), .val (.long q1), .second, .val (.long q2), .second, .val (.long q3), .second, .val (.long q4), .second] [(.long q3), (.long q4), (.long (q2 - q1))])) _
    refine XS.lsub X1.here hx rfl (hb hby d2_59) rfl ?_
    show Steps p.tables e below (T1.setTop (mkF m 60 #[.val (.ref u0), .val (.long q1), .second, .val (.long q2), .second, .val (.long q3), .second, .val (.long q4), .second] [(.long (q4 - q3)), (.long (q2 - q1))])) _
    refine XS.lcmp X1.here hx rfl (hb hby d2_60) rfl ?_
    show Steps p.tables e below (T1.setTop (mkF m 61 #[.val (.ref u0), .val (.long q1), .second, .val (.long q2), .second, .val (.long q3), .second, .val (.long q4), .second] [(.int (lcmpW (q2 - q1) (q4 - q3)))])) _
    refine XS.ifYes X1.here hx rfl (pc0 := 61) (pc' := 86) rfl (hb hby d2_61) rfl ((if0 _ _).trans (teq ((lw_eq (q2 - q1) (q4 - q3)).mpr hd61_6)).1) (by decide) (by decide) ?_
    show Steps p.tables e below (T1.setTop (mkF m 86 #[.val (.ref u0), .val (.long q1), .second, .val (.long q2), .second, .val (.long q3), .second, .val (.long q4), .second] [])) _
    refine XS.aloadN X1.here hx rfl (hb hby d2_86) rfl rfl ?_
    show Steps p.tables e below (T1.setTop (mkF m 87 #[.val (.ref u0), .val (.long q1), .second, .val (.long q2), .second, .val (.long q3), .second, .val (.long q4), .second] [(.ref u0)])) _
    refine XS.lloadN X1.here hx rfl (hb hby d2_87) rfl ?_
    show Steps p.tables e below (T1.setTop (mkF m 88 #[.val (.ref u0), .val (.long q1), .second, .val (.long q2), .second, .val (.long q3), .second, .val (.long q4), .second] [(.long q1), (.ref u0)])) _
    refine st7 _ ?_
    show Steps p.tables e below (T7.setTop (mkF m 91 #[.val (.ref u0), .val (.long q1), .second, .val (.long q2), .second, .val (.long q3), .second, .val (.long q4), .second] [])) _
    refine XS.aloadN X7.here hx rfl (hb hby d2_91) rfl rfl ?_
    show Steps p.tables e below (T7.setTop (mkF m 92 #[.val (.ref u0), .val (.long q1), .second, .val (.long q2), .second, .val (.long q3), .second, .val (.long q4), .second] [(.ref u0)])) _
    refine XS.lloadN X7.here hx rfl (hb hby d2_92) rfl ?_
    show Steps p.tables e below (T7.setTop (mkF m 93 #[.val (.ref u0), .val (.long q1), .second, .val (.long q2), .second, .val (.long q3), .second, .val (.long q4), .second] [(.long q2), (.ref u0)])) _
    refine st8 _ ?_
    show Steps p.tables e below (T8.setTop (mkF m 96 #[.val (.ref u0), .val (.long q1), .second, .val (.long q2), .second, .val (.long q3), .second, .val (.long q4), .second] [])) _
    refine XS.aloadN X8.here hx rfl (hb hby d2_96) rfl rfl ?_
    show Steps p.tables e below (T8.setTop (mkF m 97 #[.val (.ref u0), .val (.long q1), .second, .val (.long q2), .second, .val (.long q3), .second, .val (.long q4), .second] [(.ref u0)])) _
    refine XS.lload X8.here hx rfl (hb hby d2_97) rfl ?_
    show Steps p.tables e below (T8.setTop (mkF m 99 #[.val (.ref u0), .val (.long q1), .second, .val (.long q2), .second, .val (.long q3), .second, .val (.long q4), .second] [(.long q3), (.ref u0)])) _
    refine st13 _ ?_
    show Steps p.tables e below (T13.setTop (mkF m 102 #[.val (.ref u0), .val (.long q1), .second, .val (.long q2), .second, .val (.long q3), .second, .val (.long q4), .second] [])) _
    refine XS.aloadN X13.here hx rfl (hb hby d2_102) rfl rfl ?_
    show Steps p.tables e below (T13.setTop (mkF m 103 #[.val (.ref u0), .val (.long q1), .second, .val (.long q2), .second, .val (.long q3), .second, .val (.long q4), .second] [(.ref u0)])) _
    refine XS.lload X13.here hx rfl (hb hby d2_103) rfl ?_
    show Steps p.tables e below (T13.setTop (mkF m 105 #[.val (.ref u0), .val (.long q1), .second, .val (.long q2), .second, .val (.long q3), .second, .val (.long q4), .second] [(.long q4), (.ref u0)])) _
    refine st17 _ ?_
    show Steps p.tables e below (T17.setTop (mkF m 108 #[.val (.ref u0), .val (.long q1), .second, .val (.long q2), .second, .val (.long q3), .second, .val (.long q4), .second] [])) _
    exact X17.returnOut hx Bd.returns (hb hby d2_108) hr
  · show Q2 Z u0 q1 q2 q3 q4  h0 n0 _ T17.heap _
    rw [e17]
    have cy18 := (cy12.wr W13)
    have cy19 := (cy18.wr W17)
    have cy20 := (Fw7.other W8 (Or.inr (slot_ne (Or.inr (hw _ (List.mem_of_getElem? (i := 20) rfl))) (Or.inr (hw _ (List.mem_of_getElem? (i := 22) rfl))) (by decide) (t := .long) (t' := .long) (by decide) (by decide))))
    have cy21 := (cy20.other W13 (Or.inr (slot_ne (Or.inr (hw _ (List.mem_of_getElem? (i := 20) rfl))) (Or.inr (hw _ (List.mem_of_getElem? (i := 24) rfl))) (by decide) (t := .long) (t' := .long) (by decide) (by decide))))
    have cy22 := (cy21.other W17 (Or.inr (slot_ne (Or.inr (hw _ (List.mem_of_getElem? (i := 20) rfl))) (Or.inr (hw _ (List.mem_of_getElem? (i := 26) rfl))) (by decide) (t := .long) (t' := .long) (by decide) (by decide))))
    have cy23 := (Fw8.other W13 (Or.inr (slot_ne (Or.inr (hw _ (List.mem_of_getElem? (i := 22) rfl))) (Or.inr (hw _ (List.mem_of_getElem? (i := 24) rfl))) (by decide) (t := .long) (t' := .long) (by decide) (by decide))))
    have cy24 := (cy23.other W17 (Or.inr (slot_ne (Or.inr (hw _ (List.mem_of_getElem? (i := 22) rfl))) (Or.inr (hw _ (List.mem_of_getElem? (i := 26) rfl))) (by decide) (t := .long) (t' := .long) (by decide) (by decide))))
    exact ⟨rfl, N17, Kp17, cy19, cy22, cy24, (Fw13.other W17 (Or.inr (slot_ne (Or.inr (hw _ (List.mem_of_getElem? (i := 24) rfl))) (Or.inr (hw _ (List.mem_of_getElem? (i := 26) rfl))) (by decide) (t := .long) (t' := .long) (by decide) (by decide)))), Fw17⟩
theorem d6_0 : decode prog_22_method_6_code 0 = .ok (.lload_n 2, 1) := by decide +kernel
theorem d6_1 : decode prog_22_method_6_code 1 = .ok (.lconst 0, 1) := by decide +kernel
theorem d6_2 : decode prog_22_method_6_code 2 = .ok (.lcmp, 1) := by decide +kernel
theorem d6_3 : decode prog_22_method_6_code 3 = .ok (.ifCond .ne 7, 3) := by decide +kernel
theorem d6_6 : decode prog_22_method_6_code 6 = .ok (.dconst 0, 1) := by decide +kernel
theorem d6_7 : decode prog_22_method_6_code 7 = .ok (.goto 8, 3) := by decide +kernel
theorem d6_10 : decode prog_22_method_6_code 10 = .ok (.lload_n 0, 1) := by decide +kernel
theorem d6_11 : decode prog_22_method_6_code 11 = .ok (.l2d, 1) := by decide +kernel
theorem d6_12 : decode prog_22_method_6_code 12 = .ok (.lload_n 2, 1) := by decide +kernel
theorem d6_13 : decode prog_22_method_6_code 13 = .ok (.l2d, 1) := by decide +kernel
theorem d6_14 : decode prog_22_method_6_code 14 = .ok (.ddiv, 1) := by decide +kernel
theorem d6_15 : decode prog_22_method_6_code 15 = .ok (.dreturn, 1) := by decide +kernel
theorem pn_6 : plainName "com/example/ensyn/ensyn/replay/TokenCounts" = true := by first | (simp [plainName, overriddenIn]; done) | decide +kernel
theorem ef_6 (m : MethodId) (q0 : Int64) (q1 : Int64)  : entryFrame m #[(.long q0), (.long q1)] 4 = mkF m 0 #[.val (.long q0), .second, .val (.long q1), .second] [] := by first | (simp [entryFrame, mkF, argsToLocals, Value.category]; done) | rfl
def Q6 (Z : State) (q0 : Int64) (q1 : Int64) (h0 : Heap) (n0 : Nat) (v : Option Value) (h : Heap) (L : List Loc) : Prop := v = some (.double (Own.ratio q0 q1)) ∧ Fr n0 L ∧ h = h0
set_option maxRecDepth 65536 in
set_option maxHeartbeats 40000000 in
theorem rm6 (l : Launch) (Z : State) (a0 : Array Value) (hw : ∀ d ∈ tables_1, d.before a0 Z = true) (ws : List Jvm.Cond) (q0 : Int64) (q1 : Int64) (h0 : Heap) (n0 : Nat) (Z0 : n0 ≤ h0.size) :
    MetFree l (⟨"com/example/ensyn/ensyn/replay/TokenCounts", "ratio", "(JJ)D"⟩ : MethodName) (head1 (Jvm.Cond.code (⟨"com/example/ensyn/ensyn/replay/TokenCounts", "ratio", "(JJ)D"⟩ : MethodName) prog_22_method_6_code 4 (some .double) :: ws) ({ frames := 0, cells := 0, slots := 0, locals := 0 } : Room)) (fun a U => a = #[(.long q0), (.long q1)] ∧ Z.Warmed39 U.vm ∧ U.heap = h0) (fun _ _ _ _ _ => True) (fun _ U o U' => ∃ v L, o = .returned v ∧ Q6 Z q0 q1 h0 n0 v U'.heap L ∧ FrameEnd U o U' L ({ frames := 0, cells := 0, slots := 0, locals := 0 } : Room).cells ({ frames := 0, cells := 0, slots := 0, locals := 0 } : Room).slots) := by
  refine MetFree.of_bodySF (plainFor_of_name pn_6) hisR ?_
  intro p e s m args below meth c s₁ Bd hml0 hP hK
  obtain ⟨rfl, hZ, hh⟩ := hP
  have hx := Bd.exec
  have hby := Bd.bytes
  have hml : c.maxLocals = 4 := hml0
  have hown : s.vm.findClass "com/example/ensyn/ensyn/replay/TokenCounts" = some m.cls := findClass_of_methodNamed Bd.named
  have hnm := (name_of_methodNamed Bd.named Bd.method).1
  have X0 : Stand p l e ({ frames := 0, cells := 0, slots := 0, locals := 0 } : Room) s m #[(.long q0), (.long q1)] below meth c s₁ [] 0 0 := Stand.of_body Bd
  have e0 : s₁.heap = h0 := by rw [← hh, Bd.state]; rfl
  have N0 := Fr.nil n0
  have pre0 : ∀ t, Steps p.tables e below (s₁.setTop (mkF m 0 #[.val (.long q0), .second, .val (.long q1), .second] [])) t → Steps p.tables e below (s₁.setTop (entryFrame m #[(.long q0), (.long q1)] 4)) t := fun t k => castTop (ef_6 m q0 q1) k
  show Done p e below _ _
  refine Done.of ?_ pre0
  have K1 : ∀ target, Steps p.tables e below (s₁.setTop (mkF m 3 #[.val (.long q0), .second, .val (.long q1), .second] [(.int (lcmpW q1 (0 : Int64)))])) target → Steps p.tables e below (s₁.setTop (mkF m 0 #[.val (.long q0), .second, .val (.long q1), .second] [])) target := by
    intro target kt
    show Steps p.tables e below (s₁.setTop (mkF m 0 #[.val (.long q0), .second, .val (.long q1), .second] [])) _
    refine XS.lloadN X0.here hx rfl (hb hby d6_0) rfl ?_
    show Steps p.tables e below (s₁.setTop (mkF m 1 #[.val (.long q0), .second, .val (.long q1), .second] [(.long q1)])) _
    refine XS.lconst X0.here hx rfl (hb hby d6_1) ?_
    show Steps p.tables e below (s₁.setTop (mkF m 2 #[.val (.long q0), .second, .val (.long q1), .second] [(.long (0 : Int64)), (.long q1)])) _
    refine XS.lcmp X0.here hx rfl (hb hby d6_2) rfl ?_
    exact kt
  refine Done.of ?_ K1
  by_cases hc3_2 : q1 = (0 : Int64)
  · have K : ∀ target, Steps p.tables e below (s₁.setTop (mkF m 6 #[.val (.long q0), .second, .val (.long q1), .second] [])) target → Steps p.tables e below (s₁.setTop (mkF m 3 #[.val (.long q0), .second, .val (.long q1), .second] [(.int (lcmpW q1 (0 : Int64)))])) target := by
      intro target kt
      refine XS.ifNo X0.here hx rfl (hb hby d6_3) rfl ((if0 _ _).trans (teq ((lw_eq q1 (0 : Int64)).mpr hc3_2)).2) ?_
      exact kt
    refine Done.of ?_ K
    obtain ⟨fs, hr, hrun, hended, hW, hsame⟩ := X0.leave (v := some (.double (0 : UInt64))) (fun h => by rw [Bd.returns] at h; cases h)
    refine ⟨_, _, ?_, hrun, hended, _, _, rfl, ?_, ⟨_, rfl⟩, hW, hsame.mono (by decide) (by decide)⟩
    · show Steps p.tables e below (s₁.setTop (mkF m 6 #[.val (.long q0), .second, .val (.long q1), .second] [])) _
      refine XS.dconst0 X0.here hx rfl (hb hby d6_6) rfl ?_
      show Steps p.tables e below (s₁.setTop (mkF m 7 #[.val (.long q0), .second, .val (.long q1), .second] [(.double (0 : UInt64))])) _
      refine XS.goto X0.here hx rfl (pc0 := 7) (pc' := 15) rfl (hb hby d6_7) (by decide) (by decide) ?_
      show Steps p.tables e below (s₁.setTop (mkF m 15 #[.val (.long q0), .second, .val (.long q1), .second] [(.double (0 : UInt64))])) _
      jvm_step X0.here [X0.here.top, hx, (hb hby d6_15), X0.method', Bd.returns, narrow]
      first | (intro acts; rw [hr _ acts rfl rfl rfl]) | rw [hr _ _ rfl rfl rfl]
      exact Steps.refl _
    · show Q6 Z q0 q1  h0 n0 _ s₁.heap _
      rw [e0]
      refine ⟨?_, N0, rfl⟩
      unfold Own.ratio
      rw [if_pos hc3_2]
  · have K : ∀ target, Steps p.tables e below (s₁.setTop (mkF m 10 #[.val (.long q0), .second, .val (.long q1), .second] [])) target → Steps p.tables e below (s₁.setTop (mkF m 3 #[.val (.long q0), .second, .val (.long q1), .second] [(.int (lcmpW q1 (0 : Int64)))])) target := by
      intro target kt
      refine XS.ifYes X0.here hx rfl (pc0 := 3) (pc' := 10) rfl (hb hby d6_3) rfl ((if0 _ _).trans (feq (fun q => hc3_2 ((lw_eq q1 (0 : Int64)).mp q))).2) (by decide) (by decide) ?_
      exact kt
    refine Done.of ?_ K
    obtain ⟨fs, hr, hrun, hended, hW, hsame⟩ := X0.leave (v := some (.double (FP.ddiv (FP.l2d q0) (FP.l2d q1)))) (fun h => by rw [Bd.returns] at h; cases h)
    refine ⟨_, _, ?_, hrun, hended, _, _, rfl, ?_, ⟨_, rfl⟩, hW, hsame.mono (by decide) (by decide)⟩
    · show Steps p.tables e below (s₁.setTop (mkF m 10 #[.val (.long q0), .second, .val (.long q1), .second] [])) _
      refine XS.lloadN X0.here hx rfl (hb hby d6_10) rfl ?_
      show Steps p.tables e below (s₁.setTop (mkF m 11 #[.val (.long q0), .second, .val (.long q1), .second] [(.long q0)])) _
      refine XS.l2dS X0.here hx rfl (hb hby d6_11) rfl rfl ?_
      show Steps p.tables e below (s₁.setTop (mkF m 12 #[.val (.long q0), .second, .val (.long q1), .second] [(.double (FP.l2d q0))])) _
      refine XS.lloadN X0.here hx rfl (hb hby d6_12) rfl ?_
      show Steps p.tables e below (s₁.setTop (mkF m 13 #[.val (.long q0), .second, .val (.long q1), .second] [(.long q1), (.double (FP.l2d q0))])) _
      refine XS.l2dS X0.here hx rfl (hb hby d6_13) rfl rfl ?_
      show Steps p.tables e below (s₁.setTop (mkF m 14 #[.val (.long q0), .second, .val (.long q1), .second] [(.double (FP.l2d q1)), (.double (FP.l2d q0))])) _
      refine XS.ddivS X0.here hx rfl (hb hby d6_14) rfl (Jvm.Free.Fl.noNaN64_no.mpr (FP.Core.ddiv_out (FP.Core.l2d_fin _).notNaN (FP.Core.l2d_fin _) (own_dz hc3_2))) rfl ?_
      show Steps p.tables e below (s₁.setTop (mkF m 15 #[.val (.long q0), .second, .val (.long q1), .second] [(.double (FP.ddiv (FP.l2d q0) (FP.l2d q1)))])) _
      jvm_step X0.here [X0.here.top, hx, (hb hby d6_15), X0.method', Bd.returns, narrow]
      first | (intro acts; rw [hr _ acts rfl rfl rfl]) | rw [hr _ _ rfl rfl rfl]
      exact Steps.refl _
    · show Q6 Z q0 q1  h0 n0 _ s₁.heap _
      rw [e0]
      refine ⟨?_, N0, rfl⟩
      unfold Own.ratio
      rw [if_neg hc3_2]
theorem d5_0 : decode prog_22_method_4_code 0 = .ok (.ldc2_w 45, 3) := by decide +kernel
theorem d5_3 : decode prog_22_method_4_code 3 = .ok (.dconst 1, 1) := by decide +kernel
theorem d5_4 : decode prog_22_method_4_code 4 = .ok (.aload_n 0, 1) := by decide +kernel
theorem d5_5 : decode prog_22_method_4_code 5 = .ok (.getfield 30, 3) := by decide +kernel
theorem d5_8 : decode prog_22_method_4_code 8 = .ok (.aload_n 0, 1) := by decide +kernel
theorem d5_9 : decode prog_22_method_4_code 9 = .ok (.getfield 23, 3) := by decide +kernel
theorem d5_12 : decode prog_22_method_4_code 12 = .ok (.invokestatic 47, 3) := by decide +kernel
theorem d5_15 : decode prog_22_method_4_code 15 = .ok (.dsub, 1) := by decide +kernel
theorem d5_16 : decode prog_22_method_4_code 16 = .ok (.dmul, 1) := by decide +kernel
theorem d5_17 : decode prog_22_method_4_code 17 = .ok (.ldc2_w 45, 3) := by decide +kernel
theorem d5_20 : decode prog_22_method_4_code 20 = .ok (.dconst 1, 1) := by decide +kernel
theorem d5_21 : decode prog_22_method_4_code 21 = .ok (.aload_n 0, 1) := by decide +kernel
theorem d5_22 : decode prog_22_method_4_code 22 = .ok (.getfield 33, 3) := by decide +kernel
theorem d5_25 : decode prog_22_method_4_code 25 = .ok (.aload_n 0, 1) := by decide +kernel
theorem d5_26 : decode prog_22_method_4_code 26 = .ok (.getfield 27, 3) := by decide +kernel
theorem d5_29 : decode prog_22_method_4_code 29 = .ok (.invokestatic 47, 3) := by decide +kernel
theorem d5_32 : decode prog_22_method_4_code 32 = .ok (.dsub, 1) := by decide +kernel
theorem d5_33 : decode prog_22_method_4_code 33 = .ok (.dmul, 1) := by decide +kernel
theorem d5_34 : decode prog_22_method_4_code 34 = .ok (.dadd, 1) := by decide +kernel
theorem d5_35 : decode prog_22_method_4_code 35 = .ok (.dreturn, 1) := by decide +kernel
theorem pn_5 : plainName "com/example/ensyn/ensyn/replay/TokenCounts" = true := by first | (simp [plainName, overriddenIn]; done) | decide +kernel
theorem pd_1 : parseMethodDescriptor "(JJ)D" = some ⟨[.long, .long], some .double⟩ := by decide +kernel
theorem ef_5 (m : MethodId) (u0 : Addr)  : entryFrame m #[(.ref u0)] 1 = mkF m 0 #[.val (.ref u0)] [] := by first | (simp [entryFrame, mkF, argsToLocals, Value.category]; done) | rfl
def Q5 (Z : State) (u0 : Addr) (c' : Int64) (p' : Int64) (m' : Int64) (r' : Int64) (x1 : Int) (x2 : Int) (h0 : Heap) (n0 : Nat) (v : Option Value) (h : Heap) (L : List Loc) : Prop := v = some (.double (Own.fitn m' c' r' p')) ∧ Fr n0 L ∧ h = h0
set_option maxRecDepth 65536 in
set_option maxHeartbeats 40000000 in
theorem rm5 (l : Launch) (Z : State) (a0 : Array Value) (hw : ∀ d ∈ tables_1, d.before a0 Z = true) (ws : List Jvm.Cond) (u0 : Addr) (c' : Int64) (p' : Int64) (m' : Int64) (r' : Int64) (x1 : Int) (x2 : Int) (h0 : Heap) (n0 : Nat) (Z0 : n0 ≤ h0.size) (E0 : Exa Z h0 u0 "com/example/ensyn/ensyn/replay/TokenCounts") (F_consumed : Fld Z h0 u0 "com/example/ensyn/ensyn/replay/TokenCounts" "consumed" "J" (.long c')) (F_produced : Fld Z h0 u0 "com/example/ensyn/ensyn/replay/TokenCounts" "produced" "J" (.long p')) (F_missing : Fld Z h0 u0 "com/example/ensyn/ensyn/replay/TokenCounts" "missing" "J" (.long m')) (F_remaining : Fld Z h0 u0 "com/example/ensyn/ensyn/replay/TokenCounts" "remaining" "J" (.long r')) (hS1 : Own.S x1 m' c') (hS2 : Own.S x2 r' p') (hF : FP.Core.DFin (Own.fitn m' c' r' p')) :
    MetFree l (⟨"com/example/ensyn/ensyn/replay/TokenCounts", "fitness", "()D"⟩ : MethodName) (head1 (Jvm.Cond.code (⟨"com/example/ensyn/ensyn/replay/TokenCounts", "fitness", "()D"⟩ : MethodName) prog_22_method_4_code 1 (some .double) :: ws) ({ frames := 1, cells := 0, slots := 0, locals := 21 } : Room)) (fun a U => a = #[(.ref u0)] ∧ Z.Warmed39 U.vm ∧ U.heap = h0) (fun _ _ _ _ _ => True) (fun _ U o U' => ∃ v L, o = .returned v ∧ Q5 Z u0 c' p' m' r' x1 x2 h0 n0 v U'.heap L ∧ FrameEnd U o U' L ({ frames := 1, cells := 0, slots := 0, locals := 21 } : Room).cells ({ frames := 1, cells := 0, slots := 0, locals := 21 } : Room).slots) := by
  refine MetFree.of_bodySF (plainFor_of_name pn_5) hisR ?_
  intro p e s m args below meth c s₁ Bd hml0 hP hK
  obtain ⟨rfl, hZ, hh⟩ := hP
  have hx := Bd.exec
  have hby := Bd.bytes
  have hml : c.maxLocals = 1 := hml0
  have hown : s.vm.findClass "com/example/ensyn/ensyn/replay/TokenCounts" = some m.cls := findClass_of_methodNamed Bd.named
  have hnm := (name_of_methodNamed Bd.named Bd.method).1
  have X0 : Stand p l e ({ frames := 1, cells := 0, slots := 0, locals := 21 } : Room) s m #[(.ref u0)] below meth c s₁ [] 0 0 := Stand.of_body Bd
  have e0 : s₁.heap = h0 := by rw [← hh, Bd.state]; rfl
  have N0 := Fr.nil n0
  have pre0 : ∀ t, Steps p.tables e below (s₁.setTop (mkF m 0 #[.val (.ref u0)] [])) t → Steps p.tables e below (s₁.setTop (entryFrame m #[(.ref u0)] 1)) t := fun t k => castTop (ef_5 m u0) k
  show Done p e below _ _
  refine Done.of ?_ pre0
  obtain ⟨T1, X1, e1, st1⟩ := getF X0 hx hZ hown (host := "") (Or.inl (hw _ (List.mem_of_getElem? (i := 23) rfl))) Via.refl e0 F_missing (g := (mkF m 5 #[.val (.ref u0)] [(.ref u0), (.double (4607182418800017408 : UInt64)), (.double (4602678819172646912 : UInt64))])) rfl rfl (hb hby d5_5)
  obtain ⟨T2, X2, e2, st2⟩ := getF X1 hx hZ hown (host := "") (Or.inl (hw _ (List.mem_of_getElem? (i := 19) rfl))) Via.refl e1 F_consumed (g := (mkF m 9 #[.val (.ref u0)] [(.ref u0), (.long m'), (.double (4607182418800017408 : UInt64)), (.double (4602678819172646912 : UInt64))])) rfl rfl (hb hby d5_9)
  obtain ⟨_, _, ⟨T3, L3, k3, n3⟩, -, X3, ⟨Lc3, hQ3, l3, y3, z3⟩, st3⟩ := Jvm.LawKit.callS X2 hx (y := (⟨"com/example/ensyn/ensyn/replay/TokenCounts", "ratio", "(JJ)D"⟩ : MethodName)) hown (mvT hZ (hw _ (List.mem_of_getElem? (i := 34) rfl))) (mvT hZ (hw _ (List.mem_of_getElem? (i := 35) rfl))) (mvT hZ (hw _ (List.mem_of_getElem? (i := 7) rfl))) (mvT hZ (hw _ (List.mem_of_getElem? (i := 36) rfl))) (by decide) (backOf (W := 4) (rm6 l Z a0 hw [] m' c' h0 n0 Z0 ) hZ (hw _ (List.mem_of_getElem? (i := 36) rfl)) (hw _ (List.mem_of_getElem? (i := 7) rfl)) (by decide) (by decide)) (g := (mkF m 12 #[.val (.ref u0)] [(.long c'), (.long m'), (.double (4607182418800017408 : UInt64)), (.double (4602678819172646912 : UInt64))])) rfl (by rw [hml]; rfl) (argsL := [(.long m'), (.long c')]) (rest := [(.double (4607182418800017408 : UInt64)), (.double (4602678819172646912 : UInt64))]) (lenOf pd_1 rfl) rfl (by show 2 * 0 + _ ≤ _; exact Nat.le_of_eq rfl) (hb hby d5_12) (fun _ _ => ⟨rfl, e2, (by decide : 0 + 0 ≤ _), (by decide : 0 + 0 ≤ _)⟩)
  dsimp only [Pt.U, Pt.locs, Pt.cells, Pt.slots] at X3 l3 y3 z3 st3 hQ3
  rw [l3, y3, z3] at X3
  obtain ⟨rfl, N3q, e3⟩ := hQ3
  have N3 := Fr.app N0 N3q
  obtain ⟨T4, X4, e4, st4⟩ := getF X3 hx hZ hown (host := "") (Or.inl (hw _ (List.mem_of_getElem? (i := 25) rfl))) Via.refl e3 F_remaining (g := (mkF m 22 #[.val (.ref u0)] [(.ref u0), (.double (4607182418800017408 : UInt64)), (.double (4602678819172646912 : UInt64)), (.double (FP.dmul (4602678819172646912 : UInt64) (FP.dsub (4607182418800017408 : UInt64) (Own.ratio m' c'))))])) rfl rfl (hb hby d5_22)
  obtain ⟨T5, X5, e5, st5⟩ := getF X4 hx hZ hown (host := "") (Or.inl (hw _ (List.mem_of_getElem? (i := 21) rfl))) Via.refl e4 F_produced (g := (mkF m 26 #[.val (.ref u0)] [(.ref u0), (.long r'), (.double (4607182418800017408 : UInt64)), (.double (4602678819172646912 : UInt64)), (.double (FP.dmul (4602678819172646912 : UInt64) (FP.dsub (4607182418800017408 : UInt64) (Own.ratio m' c'))))])) rfl rfl (hb hby d5_26)
  obtain ⟨_, _, ⟨T6, L6, k6, n6⟩, -, X6, ⟨Lc6, hQ6, l6, y6, z6⟩, st6⟩ := Jvm.LawKit.callS X5 hx (y := (⟨"com/example/ensyn/ensyn/replay/TokenCounts", "ratio", "(JJ)D"⟩ : MethodName)) hown (mvT hZ (hw _ (List.mem_of_getElem? (i := 34) rfl))) (mvT hZ (hw _ (List.mem_of_getElem? (i := 35) rfl))) (mvT hZ (hw _ (List.mem_of_getElem? (i := 7) rfl))) (mvT hZ (hw _ (List.mem_of_getElem? (i := 36) rfl))) (by decide) (backOf (W := 6) (rm6 l Z a0 hw [] r' p' h0 n0 Z0 ) hZ (hw _ (List.mem_of_getElem? (i := 36) rfl)) (hw _ (List.mem_of_getElem? (i := 7) rfl)) (by decide) (by decide)) (g := (mkF m 29 #[.val (.ref u0)] [(.long p'), (.long r'), (.double (4607182418800017408 : UInt64)), (.double (4602678819172646912 : UInt64)), (.double (FP.dmul (4602678819172646912 : UInt64) (FP.dsub (4607182418800017408 : UInt64) (Own.ratio m' c'))))])) rfl (by rw [hml]; rfl) (argsL := [(.long r'), (.long p')]) (rest := [(.double (4607182418800017408 : UInt64)), (.double (4602678819172646912 : UInt64)), (.double (FP.dmul (4602678819172646912 : UInt64) (FP.dsub (4607182418800017408 : UInt64) (Own.ratio m' c'))))]) (lenOf pd_1 rfl) rfl (by show 2 * 0 + _ ≤ _; exact Nat.le_of_eq rfl) (hb hby d5_29) (fun _ _ => ⟨rfl, e5, (by decide : 0 + 0 ≤ _), (by decide : 0 + 0 ≤ _)⟩)
  dsimp only [Pt.U, Pt.locs, Pt.cells, Pt.slots] at X6 l6 y6 z6 st6 hQ6
  rw [l6, y6, z6] at X6
  obtain ⟨rfl, N6q, e6⟩ := hQ6
  have N6 := Fr.app N3 N6q
  obtain ⟨fs, hr, hrun, hended, hW, hsame⟩ := X6.leave (v := some (.double (FP.dadd (FP.dmul (4602678819172646912 : UInt64) (FP.dsub (4607182418800017408 : UInt64) (Own.ratio m' c'))) (FP.dmul (4602678819172646912 : UInt64) (FP.dsub (4607182418800017408 : UInt64) (Own.ratio r' p')))))) (fun h => by rw [Bd.returns] at h; cases h)
  refine ⟨_, _, ?_, hrun, hended, _, _, rfl, ?_, ⟨_, rfl⟩, hW, hsame.mono (by decide) (by decide)⟩
  · show Steps p.tables e below (s₁.setTop (mkF m 0 #[.val (.ref u0)] [])) _
    refine X0.ldc2DoubleC hx hown (mvT hZ (hw _ (List.mem_of_getElem? (i := 33) rfl))) (g := (mkF m 0 #[.val (.ref u0)] [])) rfl (hb hby d5_0) _ ?_
    show Steps p.tables e below (s₁.setTop (mkF m 3 #[.val (.ref u0)] [(.double (4602678819172646912 : UInt64))])) _
    refine XS.dconst1 X0.here hx rfl (hb hby d5_3) rfl ?_
    show Steps p.tables e below (s₁.setTop (mkF m 4 #[.val (.ref u0)] [(.double (4607182418800017408 : UInt64)), (.double (4602678819172646912 : UInt64))])) _
    refine XS.aloadN X0.here hx rfl (hb hby d5_4) rfl rfl ?_
    show Steps p.tables e below (s₁.setTop (mkF m 5 #[.val (.ref u0)] [(.ref u0), (.double (4607182418800017408 : UInt64)), (.double (4602678819172646912 : UInt64))])) _
    refine st1 _ ?_
    show Steps p.tables e below (T1.setTop (mkF m 8 #[.val (.ref u0)] [(.long m'), (.double (4607182418800017408 : UInt64)), (.double (4602678819172646912 : UInt64))])) _
    refine XS.aloadN X1.here hx rfl (hb hby d5_8) rfl rfl ?_
    show Steps p.tables e below (T1.setTop (mkF m 9 #[.val (.ref u0)] [(.ref u0), (.long m'), (.double (4607182418800017408 : UInt64)), (.double (4602678819172646912 : UInt64))])) _
    refine st2 _ ?_
    show Steps p.tables e below (T2.setTop (mkF m 12 #[.val (.ref u0)] [(.long c'), (.long m'), (.double (4607182418800017408 : UInt64)), (.double (4602678819172646912 : UInt64))])) _
    refine st3 _ ?_
    show Steps p.tables e below (T3.setTop (mkF m 15 #[.val (.ref u0)] [(.double (Own.ratio m' c')), (.double (4607182418800017408 : UInt64)), (.double (4602678819172646912 : UInt64))])) _
    refine XS.dsubS X3.here hx rfl (hb hby d5_15) rfl (own_nn hS1.2.1) rfl ?_
    show Steps p.tables e below (T3.setTop (mkF m 16 #[.val (.ref u0)] [(.double (FP.dsub (4607182418800017408 : UInt64) (Own.ratio m' c'))), (.double (4602678819172646912 : UInt64))])) _
    refine XS.dmulS X3.here hx rfl (hb hby d5_16) rfl (own_nn hS1.2.2.1) rfl ?_
    show Steps p.tables e below (T3.setTop (mkF m 17 #[.val (.ref u0)] [(.double (FP.dmul (4602678819172646912 : UInt64) (FP.dsub (4607182418800017408 : UInt64) (Own.ratio m' c'))))])) _
    refine X3.ldc2DoubleC hx hown (mvT hZ (hw _ (List.mem_of_getElem? (i := 33) rfl))) (g := (mkF m 17 #[.val (.ref u0)] [(.double (FP.dmul (4602678819172646912 : UInt64) (FP.dsub (4607182418800017408 : UInt64) (Own.ratio m' c'))))])) rfl (hb hby d5_17) _ ?_
    show Steps p.tables e below (T3.setTop (mkF m 20 #[.val (.ref u0)] [(.double (4602678819172646912 : UInt64)), (.double (FP.dmul (4602678819172646912 : UInt64) (FP.dsub (4607182418800017408 : UInt64) (Own.ratio m' c'))))])) _
    refine XS.dconst1 X3.here hx rfl (hb hby d5_20) rfl ?_
    show Steps p.tables e below (T3.setTop (mkF m 21 #[.val (.ref u0)] [(.double (4607182418800017408 : UInt64)), (.double (4602678819172646912 : UInt64)), (.double (FP.dmul (4602678819172646912 : UInt64) (FP.dsub (4607182418800017408 : UInt64) (Own.ratio m' c'))))])) _
    refine XS.aloadN X3.here hx rfl (hb hby d5_21) rfl rfl ?_
    show Steps p.tables e below (T3.setTop (mkF m 22 #[.val (.ref u0)] [(.ref u0), (.double (4607182418800017408 : UInt64)), (.double (4602678819172646912 : UInt64)), (.double (FP.dmul (4602678819172646912 : UInt64) (FP.dsub (4607182418800017408 : UInt64) (Own.ratio m' c'))))])) _
    refine st4 _ ?_
    show Steps p.tables e below (T4.setTop (mkF m 25 #[.val (.ref u0)] [(.long r'), (.double (4607182418800017408 : UInt64)), (.double (4602678819172646912 : UInt64)), (.double (FP.dmul (4602678819172646912 : UInt64) (FP.dsub (4607182418800017408 : UInt64) (Own.ratio m' c'))))])) _
    refine XS.aloadN X4.here hx rfl (hb hby d5_25) rfl rfl ?_
    show Steps p.tables e below (T4.setTop (mkF m 26 #[.val (.ref u0)] [(.ref u0), (.long r'), (.double (4607182418800017408 : UInt64)), (.double (4602678819172646912 : UInt64)), (.double (FP.dmul (4602678819172646912 : UInt64) (FP.dsub (4607182418800017408 : UInt64) (Own.ratio m' c'))))])) _
    refine st5 _ ?_
    show Steps p.tables e below (T5.setTop (mkF m 29 #[.val (.ref u0)] [(.long p'), (.long r'), (.double (4607182418800017408 : UInt64)), (.double (4602678819172646912 : UInt64)), (.double (FP.dmul (4602678819172646912 : UInt64) (FP.dsub (4607182418800017408 : UInt64) (Own.ratio m' c'))))])) _
    refine st6 _ ?_
    show Steps p.tables e below (T6.setTop (mkF m 32 #[.val (.ref u0)] [(.double (Own.ratio r' p')), (.double (4607182418800017408 : UInt64)), (.double (4602678819172646912 : UInt64)), (.double (FP.dmul (4602678819172646912 : UInt64) (FP.dsub (4607182418800017408 : UInt64) (Own.ratio m' c'))))])) _
    refine XS.dsubS X6.here hx rfl (hb hby d5_32) rfl (own_nn hS2.2.1) rfl ?_
    show Steps p.tables e below (T6.setTop (mkF m 33 #[.val (.ref u0)] [(.double (FP.dsub (4607182418800017408 : UInt64) (Own.ratio r' p'))), (.double (4602678819172646912 : UInt64)), (.double (FP.dmul (4602678819172646912 : UInt64) (FP.dsub (4607182418800017408 : UInt64) (Own.ratio m' c'))))])) _
    refine XS.dmulS X6.here hx rfl (hb hby d5_33) rfl (own_nn hS2.2.2.1) rfl ?_
    show Steps p.tables e below (T6.setTop (mkF m 34 #[.val (.ref u0)] [(.double (FP.dmul (4602678819172646912 : UInt64) (FP.dsub (4607182418800017408 : UInt64) (Own.ratio r' p')))), (.double (FP.dmul (4602678819172646912 : UInt64) (FP.dsub (4607182418800017408 : UInt64) (Own.ratio m' c'))))])) _
    refine XS.daddS X6.here hx rfl (hb hby d5_34) rfl (own_nn hF) rfl ?_
    show Steps p.tables e below (T6.setTop (mkF m 35 #[.val (.ref u0)] [(.double (FP.dadd (FP.dmul (4602678819172646912 : UInt64) (FP.dsub (4607182418800017408 : UInt64) (Own.ratio m' c'))) (FP.dmul (4602678819172646912 : UInt64) (FP.dsub (4607182418800017408 : UInt64) (Own.ratio r' p')))))])) _
    jvm_step X6.here [X6.here.top, hx, (hb hby d5_35), X6.method', Bd.returns, narrow]
    first | (intro acts; rw [hr _ acts rfl rfl rfl]) | rw [hr _ _ rfl rfl rfl]
    exact Steps.refl _
  · show Q5 Z u0 c' p' m' r' x1 x2 h0 n0 _ T6.heap _
    rw [e6]
    refine ⟨?_, N6, rfl⟩
    rfl
theorem pn_0 : plainName "com/example/ensyn/ensyn/replay/TokenCountsFitnessPinLaw" = true := by first | (simp [plainName, overriddenIn]; done) | decide +kernel
theorem pd_2 : parseMethodDescriptor "(JJ)J" = some ⟨[.long, .long], some .long⟩ := by decide +kernel
theorem pd_3 : parseMethodDescriptor "(JJJJ)V" = some ⟨[.long, .long, .long, .long], none⟩ := by decide +kernel
theorem pd_4 : parseMethodDescriptor "()D" = some ⟨[], some .double⟩ := by decide +kernel
theorem ef_0 (m : MethodId) (p0 : Int32) (p1 : Int32) (p2 : Int32) (q3 : Int64)  : entryFrame m #[(.int p0), (.int p1), (.int p2), (.long q3)] maxLocals = mkF m 0 #[.val (.int p0), .val (.int p1), .val (.int p2), .val (.long q3), .second, .unset, .unset, .unset, .unset, .unset, .unset, .unset, .unset, .unset, .unset, .unset, .unset, .unset, .unset, .unset, .unset, .unset, .unset, .unset, .unset, .unset, .unset, .unset] [] := by first | (simp [entryFrame, mkF, argsToLocals, Value.category, maxLocals]; done) | rfl
def Q0 (Z : State) (p0 : Int32) (p1 : Int32) (p2 : Int32) (q3 : Int64) (h0 : Heap) (n0 : Nat) (v : Option Value) (h : Heap) (L : List Loc) : Prop := v = some (.int 1) ∧ Fr n0 L
set_option maxRecDepth 65536 in
set_option maxHeartbeats 40000000 in
theorem rm0 (l : Launch) (Z : State) (a0 : Array Value) (hw : ∀ d ∈ tables_1, d.before a0 Z = true) (ws : List Jvm.Cond) (p0 : Int32) (p1 : Int32) (p2 : Int32) (q3 : Int64) (h0 : Heap) (n0 : Nat) (Z0 : n0 ≤ h0.size) :
    MetFree l x (head1 (Jvm.Cond.code x code maxLocals ret :: ws) room_1) (fun a U => a = #[(.int p0), (.int p1), (.int p2), (.long q3)] ∧ Z.Warmed39 U.vm ∧ U.heap = h0) (fun _ _ _ _ _ => True) (fun _ U o U' => ∃ v L, o = .returned v ∧ Q0 Z p0 p1 p2 q3 h0 n0 v U'.heap L ∧ FrameEnd U o U' L room_1.cells room_1.slots) := by
  refine MetFree.of_bodySF (plainFor_of_name pn_0) hisR ?_
  intro p e s m args below meth c s₁ Bd hml0 hP hK
  obtain ⟨rfl, hZ, hh⟩ := hP
  have hx := Bd.exec
  have hby := Bd.bytes
  have hml : c.maxLocals = 28 := hml0
  have hown : s.vm.findClass "com/example/ensyn/ensyn/replay/TokenCountsFitnessPinLaw" = some m.cls := findClass_of_methodNamed Bd.named
  have hnm := (name_of_methodNamed Bd.named Bd.method).1
  have X0 : Stand p l e room_1 s m #[(.int p0), (.int p1), (.int p2), (.long q3)] below meth c s₁ [] 0 0 := Stand.of_body Bd
  have e0 : s₁.heap = h0 := by rw [← hh, Bd.state]; rfl
  have N0 := Fr.nil n0
  have pre0 : ∀ t, Steps p.tables e below (s₁.setTop (mkF m 0 #[.val (.int p0), .val (.int p1), .val (.int p2), .val (.long q3), .second, .unset, .unset, .unset, .unset, .unset, .unset, .unset, .unset, .unset, .unset, .unset, .unset, .unset, .unset, .unset, .unset, .unset, .unset, .unset, .unset, .unset, .unset, .unset] [])) t → Steps p.tables e below (s₁.setTop (entryFrame m #[(.int p0), (.int p1), (.int p2), (.long q3)] maxLocals)) t := fun t k => castTop (ef_0 m p0 p1 p2 q3) k
  show Done p e below _ _
  refine Done.of ?_ pre0
  obtain ⟨v1, ev1⟩ : ∃ z : Int32, z = (p0 &&& (15 : Int32)) := ⟨_, rfl⟩
  obtain ⟨v2, ev2⟩ : ∃ z : Int32, z = (p1 &&& (15 : Int32)) := ⟨_, rfl⟩
  have J15_3 : ∀ wj : Int32, wj = (if (p2 &&& (1 : Int32)) = (0 : Int32) then (0 : Int32) else (1 : Int32)) → ∀ target, Steps p.tables e below (s₁.setTop (mkF m 23 #[.val (.int p0), .val (.int p1), .val (.int p2), .val (.long q3), .second, .val (.int v1), .val (.int v2), .unset, .unset, .unset, .unset, .unset, .unset, .unset, .unset, .unset, .unset, .unset, .unset, .unset, .unset, .unset, .unset, .unset, .unset, .unset, .unset, .unset] [(.int wj)])) target → Steps p.tables e below (s₁.setTop (mkF m 15 #[.val (.int p0), .val (.int p1), .val (.int p2), .val (.long q3), .second, .val (.int v1), .val (.int v2), .unset, .unset, .unset, .unset, .unset, .unset, .unset, .unset, .unset, .unset, .unset, .unset, .unset, .unset, .unset, .unset, .unset, .unset, .unset, .unset, .unset] [(.int (p2 &&& (1 : Int32)))])) target := by
    intro wj hw0 target kt
    by_cases hj15 : (p2 &&& (1 : Int32)) = (0 : Int32)
    · rw [if_pos hj15] at hw0
      show Steps p.tables e below (s₁.setTop (mkF m 15 #[.val (.int p0), .val (.int p1), .val (.int p2), .val (.long q3), .second, .val (.int v1), .val (.int v2), .unset, .unset, .unset, .unset, .unset, .unset, .unset, .unset, .unset, .unset, .unset, .unset, .unset, .unset, .unset, .unset, .unset, .unset, .unset, .unset, .unset] [(.int (p2 &&& (1 : Int32)))])) _
      refine XS.ifYes X0.here hx rfl (pc0 := 15) (pc' := 22) rfl (hb hby at_15) rfl ((if0 _ _).trans (teq hj15).1) (by decide) (by decide) ?_
      show Steps p.tables e below (s₁.setTop (mkF m 22 #[.val (.int p0), .val (.int p1), .val (.int p2), .val (.long q3), .second, .val (.int v1), .val (.int v2), .unset, .unset, .unset, .unset, .unset, .unset, .unset, .unset, .unset, .unset, .unset, .unset, .unset, .unset, .unset, .unset, .unset, .unset, .unset, .unset, .unset] [])) _
      refine XS.iconst X0.here hx rfl (hb hby at_22) ?_
      rw [hw0] at kt
      exact kt
    · rw [if_neg hj15] at hw0
      show Steps p.tables e below (s₁.setTop (mkF m 15 #[.val (.int p0), .val (.int p1), .val (.int p2), .val (.long q3), .second, .val (.int v1), .val (.int v2), .unset, .unset, .unset, .unset, .unset, .unset, .unset, .unset, .unset, .unset, .unset, .unset, .unset, .unset, .unset, .unset, .unset, .unset, .unset, .unset, .unset] [(.int (p2 &&& (1 : Int32)))])) _
      refine XS.ifNo X0.here hx rfl (hb hby at_15) rfl ((if0 _ _).trans (feq hj15).1) ?_
      show Steps p.tables e below (s₁.setTop (mkF m 18 #[.val (.int p0), .val (.int p1), .val (.int p2), .val (.long q3), .second, .val (.int v1), .val (.int v2), .unset, .unset, .unset, .unset, .unset, .unset, .unset, .unset, .unset, .unset, .unset, .unset, .unset, .unset, .unset, .unset, .unset, .unset, .unset, .unset, .unset] [])) _
      refine XS.iconst X0.here hx rfl (hb hby at_18) ?_
      show Steps p.tables e below (s₁.setTop (mkF m 19 #[.val (.int p0), .val (.int p1), .val (.int p2), .val (.long q3), .second, .val (.int v1), .val (.int v2), .unset, .unset, .unset, .unset, .unset, .unset, .unset, .unset, .unset, .unset, .unset, .unset, .unset, .unset, .unset, .unset, .unset, .unset, .unset, .unset, .unset] [(.int (1 : Int32))])) _
      refine XS.goto X0.here hx rfl (pc0 := 19) (pc' := 23) rfl (hb hby at_19) (by decide) (by decide) ?_
      rw [hw0] at kt
      exact kt
  obtain ⟨v4, ev4⟩ : ∃ z : Int32, z = (if (p2 &&& (1 : Int32)) = (0 : Int32) then (0 : Int32) else (1 : Int32)) := ⟨_, rfl⟩
  have J28_5 : ∀ wj : Int32, wj = (if (p2 &&& (2 : Int32)) = (0 : Int32) then (0 : Int32) else (1 : Int32)) → ∀ target, Steps p.tables e below (s₁.setTop (mkF m 36 #[.val (.int p0), .val (.int p1), .val (.int p2), .val (.long q3), .second, .val (.int v1), .val (.int v2), .val (.int v4), .unset, .unset, .unset, .unset, .unset, .unset, .unset, .unset, .unset, .unset, .unset, .unset, .unset, .unset, .unset, .unset, .unset, .unset, .unset, .unset] [(.int wj)])) target → Steps p.tables e below (s₁.setTop (mkF m 28 #[.val (.int p0), .val (.int p1), .val (.int p2), .val (.long q3), .second, .val (.int v1), .val (.int v2), .val (.int v4), .unset, .unset, .unset, .unset, .unset, .unset, .unset, .unset, .unset, .unset, .unset, .unset, .unset, .unset, .unset, .unset, .unset, .unset, .unset, .unset] [(.int (p2 &&& (2 : Int32)))])) target := by
    intro wj hw0 target kt
    by_cases hj28 : (p2 &&& (2 : Int32)) = (0 : Int32)
    · rw [if_pos hj28] at hw0
      show Steps p.tables e below (s₁.setTop (mkF m 28 #[.val (.int p0), .val (.int p1), .val (.int p2), .val (.long q3), .second, .val (.int v1), .val (.int v2), .val (.int v4), .unset, .unset, .unset, .unset, .unset, .unset, .unset, .unset, .unset, .unset, .unset, .unset, .unset, .unset, .unset, .unset, .unset, .unset, .unset, .unset] [(.int (p2 &&& (2 : Int32)))])) _
      refine XS.ifYes X0.here hx rfl (pc0 := 28) (pc' := 35) rfl (hb hby at_28) rfl ((if0 _ _).trans (teq hj28).1) (by decide) (by decide) ?_
      show Steps p.tables e below (s₁.setTop (mkF m 35 #[.val (.int p0), .val (.int p1), .val (.int p2), .val (.long q3), .second, .val (.int v1), .val (.int v2), .val (.int v4), .unset, .unset, .unset, .unset, .unset, .unset, .unset, .unset, .unset, .unset, .unset, .unset, .unset, .unset, .unset, .unset, .unset, .unset, .unset, .unset] [])) _
      refine XS.iconst X0.here hx rfl (hb hby at_35) ?_
      rw [hw0] at kt
      exact kt
    · rw [if_neg hj28] at hw0
      show Steps p.tables e below (s₁.setTop (mkF m 28 #[.val (.int p0), .val (.int p1), .val (.int p2), .val (.long q3), .second, .val (.int v1), .val (.int v2), .val (.int v4), .unset, .unset, .unset, .unset, .unset, .unset, .unset, .unset, .unset, .unset, .unset, .unset, .unset, .unset, .unset, .unset, .unset, .unset, .unset, .unset] [(.int (p2 &&& (2 : Int32)))])) _
      refine XS.ifNo X0.here hx rfl (hb hby at_28) rfl ((if0 _ _).trans (feq hj28).1) ?_
      show Steps p.tables e below (s₁.setTop (mkF m 31 #[.val (.int p0), .val (.int p1), .val (.int p2), .val (.long q3), .second, .val (.int v1), .val (.int v2), .val (.int v4), .unset, .unset, .unset, .unset, .unset, .unset, .unset, .unset, .unset, .unset, .unset, .unset, .unset, .unset, .unset, .unset, .unset, .unset, .unset, .unset] [])) _
      refine XS.iconst X0.here hx rfl (hb hby at_31) ?_
      show Steps p.tables e below (s₁.setTop (mkF m 32 #[.val (.int p0), .val (.int p1), .val (.int p2), .val (.long q3), .second, .val (.int v1), .val (.int v2), .val (.int v4), .unset, .unset, .unset, .unset, .unset, .unset, .unset, .unset, .unset, .unset, .unset, .unset, .unset, .unset, .unset, .unset, .unset, .unset, .unset, .unset] [(.int (1 : Int32))])) _
      refine XS.goto X0.here hx rfl (pc0 := 32) (pc' := 36) rfl (hb hby at_32) (by decide) (by decide) ?_
      rw [hw0] at kt
      exact kt
  obtain ⟨v6, ev6⟩ : ∃ z : Int32, z = (if (p2 &&& (2 : Int32)) = (0 : Int32) then (0 : Int32) else (1 : Int32)) := ⟨_, rfl⟩
  have J40_7 : ∀ wj : Int64, wj = (if v4 = (0 : Int32) then ((1 : Int64) <<< (v1 &&& 0x3f).toInt64) else (0 : Int64)) → ∀ target, Steps p.tables e below (s₁.setTop (mkF m 51 #[.val (.int p0), .val (.int p1), .val (.int p2), .val (.long q3), .second, .val (.int v1), .val (.int v2), .val (.int v4), .val (.int v6), .unset, .unset, .unset, .unset, .unset, .unset, .unset, .unset, .unset, .unset, .unset, .unset, .unset, .unset, .unset, .unset, .unset, .unset, .unset] [(.long wj)])) target → Steps p.tables e below (s₁.setTop (mkF m 40 #[.val (.int p0), .val (.int p1), .val (.int p2), .val (.long q3), .second, .val (.int v1), .val (.int v2), .val (.int v4), .val (.int v6), .unset, .unset, .unset, .unset, .unset, .unset, .unset, .unset, .unset, .unset, .unset, .unset, .unset, .unset, .unset, .unset, .unset, .unset, .unset] [(.int v4)])) target := by
    intro wj hw0 target kt
    by_cases hj40 : v4 = (0 : Int32)
    · rw [if_pos hj40] at hw0
      show Steps p.tables e below (s₁.setTop (mkF m 40 #[.val (.int p0), .val (.int p1), .val (.int p2), .val (.long q3), .second, .val (.int v1), .val (.int v2), .val (.int v4), .val (.int v6), .unset, .unset, .unset, .unset, .unset, .unset, .unset, .unset, .unset, .unset, .unset, .unset, .unset, .unset, .unset, .unset, .unset, .unset, .unset] [(.int v4)])) _
      refine XS.ifYes X0.here hx rfl (pc0 := 40) (pc' := 47) rfl (hb hby at_40) rfl ((if0 _ _).trans (teq hj40).1) (by decide) (by decide) ?_
      refine XS.lconst X0.here hx rfl (hb hby at_47) ?_
      refine XS.iload X0.here hx rfl (hb hby at_48) rfl ?_
      show Steps p.tables e below (s₁.setTop (mkF m 50 #[.val (.int p0), .val (.int p1), .val (.int p2), .val (.long q3), .second, .val (.int v1), .val (.int v2), .val (.int v4), .val (.int v6), .unset, .unset, .unset, .unset, .unset, .unset, .unset, .unset, .unset, .unset, .unset, .unset, .unset, .unset, .unset, .unset, .unset, .unset, .unset] [(.int v1), (.long (1 : Int64))])) _
      refine XS.lshl X0.here hx rfl (hb hby at_50) rfl ?_
      rw [hw0] at kt
      exact kt
    · rw [if_neg hj40] at hw0
      show Steps p.tables e below (s₁.setTop (mkF m 40 #[.val (.int p0), .val (.int p1), .val (.int p2), .val (.long q3), .second, .val (.int v1), .val (.int v2), .val (.int v4), .val (.int v6), .unset, .unset, .unset, .unset, .unset, .unset, .unset, .unset, .unset, .unset, .unset, .unset, .unset, .unset, .unset, .unset, .unset, .unset, .unset] [(.int v4)])) _
      refine XS.ifNo X0.here hx rfl (hb hby at_40) rfl ((if0 _ _).trans (feq hj40).1) ?_
      refine XS.lconst X0.here hx rfl (hb hby at_43) ?_
      show Steps p.tables e below (s₁.setTop (mkF m 44 #[.val (.int p0), .val (.int p1), .val (.int p2), .val (.long q3), .second, .val (.int v1), .val (.int v2), .val (.int v4), .val (.int v6), .unset, .unset, .unset, .unset, .unset, .unset, .unset, .unset, .unset, .unset, .unset, .unset, .unset, .unset, .unset, .unset, .unset, .unset, .unset] [(.long (0 : Int64))])) _
      refine XS.goto X0.here hx rfl (pc0 := 44) (pc' := 51) rfl (hb hby at_44) (by decide) (by decide) ?_
      rw [hw0] at kt
      exact kt
  obtain ⟨v8, ev8⟩ : ∃ z : Int64, z = (if v4 = (0 : Int32) then ((1 : Int64) <<< (v1 &&& 0x3f).toInt64) else (0 : Int64)) := ⟨_, rfl⟩
  have J55_9 : ∀ wj : Int64, wj = (if v6 = (0 : Int32) then ((1 : Int64) <<< (v2 &&& 0x3f).toInt64) else (0 : Int64)) → ∀ target, Steps p.tables e below (s₁.setTop (mkF m 66 #[.val (.int p0), .val (.int p1), .val (.int p2), .val (.long q3), .second, .val (.int v1), .val (.int v2), .val (.int v4), .val (.int v6), .val (.long v8), .second, .unset, .unset, .unset, .unset, .unset, .unset, .unset, .unset, .unset, .unset, .unset, .unset, .unset, .unset, .unset, .unset, .unset] [(.long wj)])) target → Steps p.tables e below (s₁.setTop (mkF m 55 #[.val (.int p0), .val (.int p1), .val (.int p2), .val (.long q3), .second, .val (.int v1), .val (.int v2), .val (.int v4), .val (.int v6), .val (.long v8), .second, .unset, .unset, .unset, .unset, .unset, .unset, .unset, .unset, .unset, .unset, .unset, .unset, .unset, .unset, .unset, .unset, .unset] [(.int v6)])) target := by
    intro wj hw0 target kt
    by_cases hj55 : v6 = (0 : Int32)
    · rw [if_pos hj55] at hw0
      show Steps p.tables e below (s₁.setTop (mkF m 55 #[.val (.int p0), .val (.int p1), .val (.int p2), .val (.long q3), .second, .val (.int v1), .val (.int v2), .val (.int v4), .val (.int v6), .val (.long v8), .second, .unset, .unset, .unset, .unset, .unset, .unset, .unset, .unset, .unset, .unset, .unset, .unset, .unset, .unset, .unset, .unset, .unset] [(.int v6)])) _
      refine XS.ifYes X0.here hx rfl (pc0 := 55) (pc' := 62) rfl (hb hby at_55) rfl ((if0 _ _).trans (teq hj55).1) (by decide) (by decide) ?_
      show Steps p.tables e below (s₁.setTop (mkF m 62 #[.val (.int p0), .val (.int p1), .val (.int p2), .val (.long q3), .second, .val (.int v1), .val (.int v2), .val (.int v4), .val (.int v6), .val (.long v8), .second, .unset, .unset, .unset, .unset, .unset, .unset, .unset, .unset, .unset, .unset, .unset, .unset, .unset, .unset, .unset, .unset, .unset] [])) _
      refine XS.lconst X0.here hx rfl (hb hby at_62) ?_
      refine XS.iload X0.here hx rfl (hb hby at_63) rfl ?_
      refine XS.lshl X0.here hx rfl (hb hby at_65) rfl ?_
      rw [hw0] at kt
      exact kt
    · rw [if_neg hj55] at hw0
      show Steps p.tables e below (s₁.setTop (mkF m 55 #[.val (.int p0), .val (.int p1), .val (.int p2), .val (.long q3), .second, .val (.int v1), .val (.int v2), .val (.int v4), .val (.int v6), .val (.long v8), .second, .unset, .unset, .unset, .unset, .unset, .unset, .unset, .unset, .unset, .unset, .unset, .unset, .unset, .unset, .unset, .unset, .unset] [(.int v6)])) _
      refine XS.ifNo X0.here hx rfl (hb hby at_55) rfl ((if0 _ _).trans (feq hj55).1) ?_
      refine XS.lconst X0.here hx rfl (hb hby at_58) ?_
      show Steps p.tables e below (s₁.setTop (mkF m 59 #[.val (.int p0), .val (.int p1), .val (.int p2), .val (.long q3), .second, .val (.int v1), .val (.int v2), .val (.int v4), .val (.int v6), .val (.long v8), .second, .unset, .unset, .unset, .unset, .unset, .unset, .unset, .unset, .unset, .unset, .unset, .unset, .unset, .unset, .unset, .unset, .unset] [(.long (0 : Int64))])) _
      refine XS.goto X0.here hx rfl (pc0 := 59) (pc' := 66) rfl (hb hby at_59) (by decide) (by decide) ?_
      rw [hw0] at kt
      exact kt
  obtain ⟨v10, ev10⟩ : ∃ z : Int64, z = (if v6 = (0 : Int32) then ((1 : Int64) <<< (v2 &&& 0x3f).toInt64) else (0 : Int64)) := ⟨_, rfl⟩
  obtain ⟨v11, ev11⟩ : ∃ z : Int64, z = (v10 - v8) := ⟨_, rfl⟩
  obtain ⟨v12, ev12⟩ : ∃ z : Int64, z = (q3 &&& (1073741823 : Int64)) := ⟨_, rfl⟩
  obtain ⟨_, _, ⟨T13, L13, k13, n13⟩, -, X13, ⟨Lc13, hQ13, l13, y13, z13⟩, st13⟩ := Jvm.LawKit.callS X0 hx (y := (⟨"java/lang/Math", "max", "(JJ)J"⟩ : MethodName)) hown (mvT hZ (hw _ (List.mem_of_getElem? (i := 1) rfl))) (mvT hZ (hw _ (List.mem_of_getElem? (i := 2) rfl))) (mvT hZ (hw _ (List.mem_of_getElem? (i := 3) rfl))) (mvT hZ (hw _ (List.mem_of_getElem? (i := 4) rfl))) (by decide) (backOf (W := 2) (rm1 l Z a0 hw [] (0 : Int64) (-v11) h0 n0 Z0 ) hZ (hw _ (List.mem_of_getElem? (i := 4) rfl)) (hw _ (List.mem_of_getElem? (i := 3) rfl)) (by decide) (by decide)) (g := (mkF m 88 #[.val (.int p0), .val (.int p1), .val (.int p2), .val (.long q3), .second, .val (.int v1), .val (.int v2), .val (.int v4), .val (.int v6), .val (.long v8), .second, .val (.long v10), .second, .val (.long v11), .second, .val (.long v12), .second, .unset, .unset, .unset, .unset, .unset, .unset, .unset, .unset, .unset, .unset, .unset] [(.long (-v11)), (.long (0 : Int64)), (.long v12)])) rfl (by rw [hml]; rfl) (argsL := [(.long (0 : Int64)), (.long (-v11))]) (rest := [(.long v12)]) (lenOf pd_2 rfl) rfl (by show 2 * 0 + _ ≤ _; exact Nat.le_of_eq rfl) (hb hby at_88) (fun _ _ => ⟨rfl, e0, (by decide : 0 + 0 ≤ _), (by decide : 0 + 0 ≤ _)⟩)
  dsimp only [Pt.U, Pt.locs, Pt.cells, Pt.slots] at X13 l13 y13 z13 st13 hQ13
  rw [l13, y13, z13] at X13
  obtain ⟨rfl, N13q, e13⟩ := hQ13
  have N13 := Fr.app N0 N13q
  obtain ⟨v14, ev14⟩ : ∃ z : Int64, z = (v12 + (own_X (0 : Int64) (-v11))) := ⟨_, rfl⟩
  obtain ⟨_, _, ⟨T15, L15, k15, n15⟩, -, X15, ⟨Lc15, hQ15, l15, y15, z15⟩, st15⟩ := Jvm.LawKit.callS X13 hx (y := (⟨"java/lang/Math", "max", "(JJ)J"⟩ : MethodName)) hown (mvT hZ (hw _ (List.mem_of_getElem? (i := 1) rfl))) (mvT hZ (hw _ (List.mem_of_getElem? (i := 2) rfl))) (mvT hZ (hw _ (List.mem_of_getElem? (i := 3) rfl))) (mvT hZ (hw _ (List.mem_of_getElem? (i := 4) rfl))) (by decide) (backOf (W := 2) (rm1 l Z a0 hw [] v11 (0 : Int64) h0 n0 Z0 ) hZ (hw _ (List.mem_of_getElem? (i := 4) rfl)) (hw _ (List.mem_of_getElem? (i := 3) rfl)) (by decide) (by decide)) (g := (mkF m 99 #[.val (.int p0), .val (.int p1), .val (.int p2), .val (.long q3), .second, .val (.int v1), .val (.int v2), .val (.int v4), .val (.int v6), .val (.long v8), .second, .val (.long v10), .second, .val (.long v11), .second, .val (.long v12), .second, .val (.long v14), .second, .unset, .unset, .unset, .unset, .unset, .unset, .unset, .unset, .unset] [(.long (0 : Int64)), (.long v11), (.long v12)])) rfl (by rw [hml]; rfl) (argsL := [(.long v11), (.long (0 : Int64))]) (rest := [(.long v12)]) (lenOf pd_2 rfl) rfl (by show 2 * 0 + _ ≤ _; exact Nat.le_of_eq rfl) (hb hby at_99) (fun _ _ => ⟨rfl, e13, (by decide : 0 + 0 ≤ _), (by decide : 0 + 0 ≤ _)⟩)
  dsimp only [Pt.U, Pt.locs, Pt.cells, Pt.slots] at X15 l15 y15 z15 st15 hQ15
  rw [l15, y15, z15] at X15
  obtain ⟨rfl, N15q, e15⟩ := hQ15
  have N15 := Fr.app N13 N15q
  obtain ⟨v16, ev16⟩ : ∃ z : Int64, z = (v12 + (own_X v11 (0 : Int64))) := ⟨_, rfl⟩
  have HC := own_c ev1 ev8
  have HP := own_c ev2 ev10
  have MR := own_mr (own_cb HC) (own_cb HP) ev11 ev12 ev14 ev16
  obtain ⟨T17, h17, X17, e17, E17, A17, D17, -, st17⟩ := newO X15 hx hZ hown (hw _ (List.mem_of_getElem? (i := 5) rfl)) (hw _ (List.mem_of_getElem? (i := 6) rfl)) (hw _ (List.mem_of_getElem? (i := 7) rfl)) e15 (g := (mkF m 105 #[.val (.int p0), .val (.int p1), .val (.int p2), .val (.long q3), .second, .val (.int v1), .val (.int v2), .val (.int v4), .val (.int v6), .val (.long v8), .second, .val (.long v10), .second, .val (.long v11), .second, .val (.long v12), .second, .val (.long v14), .second, .val (.long v16), .second, .unset, .unset, .unset, .unset, .unset, .unset, .unset] [])) rfl (hb hby at_105) (by decide) (by decide)
  obtain ⟨b17, g17⟩ : ∃ z, z = h0.size := ⟨_, rfl⟩
  rw [← g17] at A17 D17 st17
  have gnb17 : n0 ≤ b17 := Nat.le_trans Z0 (Nat.le_of_eq g17.symm)
  have Z17 : n0 ≤ h17.size := Nat.le_trans Z0 E17.1
  have F17_consumed : Fld Z h17 b17 "com/example/ensyn/ensyn/replay/TokenCounts" "consumed" "J" (.long (0 : Int64)) := D17 (Or.inr (hw _ (List.mem_of_getElem? (i := 20) rfl))) (ty := .long) (by decide)
  have F17_produced : Fld Z h17 b17 "com/example/ensyn/ensyn/replay/TokenCounts" "produced" "J" (.long (0 : Int64)) := D17 (Or.inr (hw _ (List.mem_of_getElem? (i := 22) rfl))) (ty := .long) (by decide)
  have F17_missing : Fld Z h17 b17 "com/example/ensyn/ensyn/replay/TokenCounts" "missing" "J" (.long (0 : Int64)) := D17 (Or.inr (hw _ (List.mem_of_getElem? (i := 24) rfl))) (ty := .long) (by decide)
  have F17_remaining : Fld Z h17 b17 "com/example/ensyn/ensyn/replay/TokenCounts" "remaining" "J" (.long (0 : Int64)) := D17 (Or.inr (hw _ (List.mem_of_getElem? (i := 26) rfl))) (ty := .long) (by decide)
  obtain ⟨_, _, ⟨T18, L18, k18, n18⟩, -, X18, ⟨Lc18, hQ18, l18, y18, z18⟩, st18⟩ := X17.specialBack hx (y := (⟨"com/example/ensyn/ensyn/replay/TokenCounts", "<init>", "(JJJJ)V"⟩ : MethodName)) rfl hown (mvT hZ (hw _ (List.mem_of_getElem? (i := 8) rfl))) (mvT hZ (hw _ (List.mem_of_getElem? (i := 9) rfl))) (mvT hZ (hw _ (List.mem_of_getElem? (i := 10) rfl))) (by decide) (backOf (W := 1) (rm2 l Z a0 hw [] b17 v8 v10 v14 v16 h17 n0 Z17 A17 gnb17 F17_consumed F17_produced F17_missing F17_remaining (own_nneg (own_cb HC).1) (own_nneg (own_cb HP).1) (own_nneg MR.1.1) (own_nneg MR.2.1.1) MR.2.2) hZ (hw _ (List.mem_of_getElem? (i := 10) rfl)) (hw _ (List.mem_of_getElem? (i := 7) rfl)) (by decide) (by decide)) (g := (mkF m 117 #[.val (.int p0), .val (.int p1), .val (.int p2), .val (.long q3), .second, .val (.int v1), .val (.int v2), .val (.int v4), .val (.int v6), .val (.long v8), .second, .val (.long v10), .second, .val (.long v11), .second, .val (.long v12), .second, .val (.long v14), .second, .val (.long v16), .second, .unset, .unset, .unset, .unset, .unset, .unset, .unset] [(.long v16), (.long v14), (.long v10), (.long v8), (.ref b17), (.ref b17)])) rfl (by rw [hml]; rfl) (Steps.refl _) (a := b17) (argsL := [(.long v8), (.long v10), (.long v14), (.long v16)]) (rest := [(.ref b17)]) (lenOf pd_3 rfl) rfl (by show 2 * 0 + _ ≤ _; exact Nat.le_of_eq rfl) (hb hby at_117) (fun _ _ => ⟨rfl, e17, (by decide : 1 + 0 ≤ _), (by decide : 4 + 0 ≤ _)⟩)
  dsimp only [Pt.U, Pt.locs, Pt.cells, Pt.slots] at X18 l18 y18 z18 st18 hQ18
  rw [l18, y18, z18] at X18
  obtain ⟨rfl, N18q, K18q, EI18, F18_0, F18_1, F18_2, F18_3⟩ := hQ18
  have N18 := Fr.app N15 N18q
  have Z18 : n0 ≤ T18.heap.size := Nat.le_trans Z17 K18q.1
  have K19 : ∀ target, Steps p.tables e below (T18.setTop (mkF m 124 #[.val (.int p0), .val (.int p1), .val (.int p2), .val (.long q3), .second, .val (.int v1), .val (.int v2), .val (.int v4), .val (.int v6), .val (.long v8), .second, .val (.long v10), .second, .val (.long v11), .second, .val (.long v12), .second, .val (.long v14), .second, .val (.long v16), .second, .val (.ref b17), .unset, .unset, .unset, .unset, .unset, .unset] [(.int v4)])) target → Steps p.tables e below (s₁.setTop (mkF m 0 #[.val (.int p0), .val (.int p1), .val (.int p2), .val (.long q3), .second, .unset, .unset, .unset, .unset, .unset, .unset, .unset, .unset, .unset, .unset, .unset, .unset, .unset, .unset, .unset, .unset, .unset, .unset, .unset, .unset, .unset, .unset, .unset] [])) target := by
    intro target kt
    show Steps p.tables e below (s₁.setTop (mkF m 0 #[.val (.int p0), .val (.int p1), .val (.int p2), .val (.long q3), .second, .unset, .unset, .unset, .unset, .unset, .unset, .unset, .unset, .unset, .unset, .unset, .unset, .unset, .unset, .unset, .unset, .unset, .unset, .unset, .unset, .unset, .unset, .unset] [])) _
    refine XS.iloadN X0.here hx rfl (hb hby at_0) rfl ?_
    show Steps p.tables e below (s₁.setTop (mkF m 1 #[.val (.int p0), .val (.int p1), .val (.int p2), .val (.long q3), .second, .unset, .unset, .unset, .unset, .unset, .unset, .unset, .unset, .unset, .unset, .unset, .unset, .unset, .unset, .unset, .unset, .unset, .unset, .unset, .unset, .unset, .unset, .unset] [(.int p0)])) _
    refine XS.bipush X0.here hx rfl (hb hby at_1) ?_
    refine XS.iand X0.here hx rfl (hb hby at_3) rfl ?_
    show Steps p.tables e below (s₁.setTop (mkF m 4 #[.val (.int p0), .val (.int p1), .val (.int p2), .val (.long q3), .second, .unset, .unset, .unset, .unset, .unset, .unset, .unset, .unset, .unset, .unset, .unset, .unset, .unset, .unset, .unset, .unset, .unset, .unset, .unset, .unset, .unset, .unset, .unset] [(.int (p0 &&& (15 : Int32)))])) _
    rw [← ev1]
    show Steps p.tables e below (s₁.setTop (mkF m 4 #[.val (.int p0), .val (.int p1), .val (.int p2), .val (.long q3), .second, .unset, .unset, .unset, .unset, .unset, .unset, .unset, .unset, .unset, .unset, .unset, .unset, .unset, .unset, .unset, .unset, .unset, .unset, .unset, .unset, .unset, .unset, .unset] [(.int v1)])) _
    refine XS.istore X0.here hx rfl (hb hby at_4) rfl (l' := #[.val (.int p0), .val (.int p1), .val (.int p2), .val (.long q3), .second, .val (.int v1), .unset, .unset, .unset, .unset, .unset, .unset, .unset, .unset, .unset, .unset, .unset, .unset, .unset, .unset, .unset, .unset, .unset, .unset, .unset, .unset, .unset, .unset]) rfl ?_
    show Steps p.tables e below (s₁.setTop (mkF m 6 #[.val (.int p0), .val (.int p1), .val (.int p2), .val (.long q3), .second, .val (.int v1), .unset, .unset, .unset, .unset, .unset, .unset, .unset, .unset, .unset, .unset, .unset, .unset, .unset, .unset, .unset, .unset, .unset, .unset, .unset, .unset, .unset, .unset] [])) _
    refine XS.iloadN X0.here hx rfl (hb hby at_6) rfl ?_
    show Steps p.tables e below (s₁.setTop (mkF m 7 #[.val (.int p0), .val (.int p1), .val (.int p2), .val (.long q3), .second, .val (.int v1), .unset, .unset, .unset, .unset, .unset, .unset, .unset, .unset, .unset, .unset, .unset, .unset, .unset, .unset, .unset, .unset, .unset, .unset, .unset, .unset, .unset, .unset] [(.int p1)])) _
    refine XS.bipush X0.here hx rfl (hb hby at_7) ?_
    refine XS.iand X0.here hx rfl (hb hby at_9) rfl ?_
    show Steps p.tables e below (s₁.setTop (mkF m 10 #[.val (.int p0), .val (.int p1), .val (.int p2), .val (.long q3), .second, .val (.int v1), .unset, .unset, .unset, .unset, .unset, .unset, .unset, .unset, .unset, .unset, .unset, .unset, .unset, .unset, .unset, .unset, .unset, .unset, .unset, .unset, .unset, .unset] [(.int (p1 &&& (15 : Int32)))])) _
    rw [← ev2]
    show Steps p.tables e below (s₁.setTop (mkF m 10 #[.val (.int p0), .val (.int p1), .val (.int p2), .val (.long q3), .second, .val (.int v1), .unset, .unset, .unset, .unset, .unset, .unset, .unset, .unset, .unset, .unset, .unset, .unset, .unset, .unset, .unset, .unset, .unset, .unset, .unset, .unset, .unset, .unset] [(.int v2)])) _
    refine XS.istore X0.here hx rfl (hb hby at_10) rfl (l' := #[.val (.int p0), .val (.int p1), .val (.int p2), .val (.long q3), .second, .val (.int v1), .val (.int v2), .unset, .unset, .unset, .unset, .unset, .unset, .unset, .unset, .unset, .unset, .unset, .unset, .unset, .unset, .unset, .unset, .unset, .unset, .unset, .unset, .unset]) rfl ?_
    show Steps p.tables e below (s₁.setTop (mkF m 12 #[.val (.int p0), .val (.int p1), .val (.int p2), .val (.long q3), .second, .val (.int v1), .val (.int v2), .unset, .unset, .unset, .unset, .unset, .unset, .unset, .unset, .unset, .unset, .unset, .unset, .unset, .unset, .unset, .unset, .unset, .unset, .unset, .unset, .unset] [])) _
    refine XS.iloadN X0.here hx rfl (hb hby at_12) rfl ?_
    show Steps p.tables e below (s₁.setTop (mkF m 13 #[.val (.int p0), .val (.int p1), .val (.int p2), .val (.long q3), .second, .val (.int v1), .val (.int v2), .unset, .unset, .unset, .unset, .unset, .unset, .unset, .unset, .unset, .unset, .unset, .unset, .unset, .unset, .unset, .unset, .unset, .unset, .unset, .unset, .unset] [(.int p2)])) _
    refine XS.iconst X0.here hx rfl (hb hby at_13) ?_
    refine XS.iand X0.here hx rfl (hb hby at_14) rfl ?_
    show Steps p.tables e below (s₁.setTop (mkF m 15 #[.val (.int p0), .val (.int p1), .val (.int p2), .val (.long q3), .second, .val (.int v1), .val (.int v2), .unset, .unset, .unset, .unset, .unset, .unset, .unset, .unset, .unset, .unset, .unset, .unset, .unset, .unset, .unset, .unset, .unset, .unset, .unset, .unset, .unset] [(.int (p2 &&& (1 : Int32)))])) _
    refine J15_3 _ rfl _ ?_
    show Steps p.tables e below (s₁.setTop (mkF m 23 #[.val (.int p0), .val (.int p1), .val (.int p2), .val (.long q3), .second, .val (.int v1), .val (.int v2), .unset, .unset, .unset, .unset, .unset, .unset, .unset, .unset, .unset, .unset, .unset, .unset, .unset, .unset, .unset, .unset, .unset, .unset, .unset, .unset, .unset] [(.int (if (p2 &&& (1 : Int32)) = (0 : Int32) then (0 : Int32) else (1 : Int32)))])) _
    rw [← ev4]
    show Steps p.tables e below (s₁.setTop (mkF m 23 #[.val (.int p0), .val (.int p1), .val (.int p2), .val (.long q3), .second, .val (.int v1), .val (.int v2), .unset, .unset, .unset, .unset, .unset, .unset, .unset, .unset, .unset, .unset, .unset, .unset, .unset, .unset, .unset, .unset, .unset, .unset, .unset, .unset, .unset] [(.int v4)])) _
    refine XS.istore X0.here hx rfl (hb hby at_23) rfl (l' := #[.val (.int p0), .val (.int p1), .val (.int p2), .val (.long q3), .second, .val (.int v1), .val (.int v2), .val (.int v4), .unset, .unset, .unset, .unset, .unset, .unset, .unset, .unset, .unset, .unset, .unset, .unset, .unset, .unset, .unset, .unset, .unset, .unset, .unset, .unset]) rfl ?_
    show Steps p.tables e below (s₁.setTop (mkF m 25 #[.val (.int p0), .val (.int p1), .val (.int p2), .val (.long q3), .second, .val (.int v1), .val (.int v2), .val (.int v4), .unset, .unset, .unset, .unset, .unset, .unset, .unset, .unset, .unset, .unset, .unset, .unset, .unset, .unset, .unset, .unset, .unset, .unset, .unset, .unset] [])) _
    refine XS.iloadN X0.here hx rfl (hb hby at_25) rfl ?_
    show Steps p.tables e below (s₁.setTop (mkF m 26 #[.val (.int p0), .val (.int p1), .val (.int p2), .val (.long q3), .second, .val (.int v1), .val (.int v2), .val (.int v4), .unset, .unset, .unset, .unset, .unset, .unset, .unset, .unset, .unset, .unset, .unset, .unset, .unset, .unset, .unset, .unset, .unset, .unset, .unset, .unset] [(.int p2)])) _
    refine XS.iconst X0.here hx rfl (hb hby at_26) ?_
    refine XS.iand X0.here hx rfl (hb hby at_27) rfl ?_
    show Steps p.tables e below (s₁.setTop (mkF m 28 #[.val (.int p0), .val (.int p1), .val (.int p2), .val (.long q3), .second, .val (.int v1), .val (.int v2), .val (.int v4), .unset, .unset, .unset, .unset, .unset, .unset, .unset, .unset, .unset, .unset, .unset, .unset, .unset, .unset, .unset, .unset, .unset, .unset, .unset, .unset] [(.int (p2 &&& (2 : Int32)))])) _
    refine J28_5 _ rfl _ ?_
    show Steps p.tables e below (s₁.setTop (mkF m 36 #[.val (.int p0), .val (.int p1), .val (.int p2), .val (.long q3), .second, .val (.int v1), .val (.int v2), .val (.int v4), .unset, .unset, .unset, .unset, .unset, .unset, .unset, .unset, .unset, .unset, .unset, .unset, .unset, .unset, .unset, .unset, .unset, .unset, .unset, .unset] [(.int (if (p2 &&& (2 : Int32)) = (0 : Int32) then (0 : Int32) else (1 : Int32)))])) _
    rw [← ev6]
    show Steps p.tables e below (s₁.setTop (mkF m 36 #[.val (.int p0), .val (.int p1), .val (.int p2), .val (.long q3), .second, .val (.int v1), .val (.int v2), .val (.int v4), .unset, .unset, .unset, .unset, .unset, .unset, .unset, .unset, .unset, .unset, .unset, .unset, .unset, .unset, .unset, .unset, .unset, .unset, .unset, .unset] [(.int v6)])) _
    refine XS.istore X0.here hx rfl (hb hby at_36) rfl (l' := #[.val (.int p0), .val (.int p1), .val (.int p2), .val (.long q3), .second, .val (.int v1), .val (.int v2), .val (.int v4), .val (.int v6), .unset, .unset, .unset, .unset, .unset, .unset, .unset, .unset, .unset, .unset, .unset, .unset, .unset, .unset, .unset, .unset, .unset, .unset, .unset]) rfl ?_
    refine XS.iload X0.here hx rfl (hb hby at_38) rfl ?_
    show Steps p.tables e below (s₁.setTop (mkF m 40 #[.val (.int p0), .val (.int p1), .val (.int p2), .val (.long q3), .second, .val (.int v1), .val (.int v2), .val (.int v4), .val (.int v6), .unset, .unset, .unset, .unset, .unset, .unset, .unset, .unset, .unset, .unset, .unset, .unset, .unset, .unset, .unset, .unset, .unset, .unset, .unset] [(.int v4)])) _
    refine J40_7 _ rfl _ ?_
    show Steps p.tables e below (s₁.setTop (mkF m 51 #[.val (.int p0), .val (.int p1), .val (.int p2), .val (.long q3), .second, .val (.int v1), .val (.int v2), .val (.int v4), .val (.int v6), .unset, .unset, .unset, .unset, .unset, .unset, .unset, .unset, .unset, .unset, .unset, .unset, .unset, .unset, .unset, .unset, .unset, .unset, .unset] [(.long (if v4 = (0 : Int32) then ((1 : Int64) <<< (v1 &&& 0x3f).toInt64) else (0 : Int64)))])) _
    rw [← ev8]
    show Steps p.tables e below (s₁.setTop (mkF m 51 #[.val (.int p0), .val (.int p1), .val (.int p2), .val (.long q3), .second, .val (.int v1), .val (.int v2), .val (.int v4), .val (.int v6), .unset, .unset, .unset, .unset, .unset, .unset, .unset, .unset, .unset, .unset, .unset, .unset, .unset, .unset, .unset, .unset, .unset, .unset, .unset] [(.long v8)])) _
    refine XS.lstore X0.here hx rfl (hb hby at_51) rfl (l' := #[.val (.int p0), .val (.int p1), .val (.int p2), .val (.long q3), .second, .val (.int v1), .val (.int v2), .val (.int v4), .val (.int v6), .val (.long v8), .second, .unset, .unset, .unset, .unset, .unset, .unset, .unset, .unset, .unset, .unset, .unset, .unset, .unset, .unset, .unset, .unset, .unset]) rfl ?_
    refine XS.iload X0.here hx rfl (hb hby at_53) rfl ?_
    show Steps p.tables e below (s₁.setTop (mkF m 55 #[.val (.int p0), .val (.int p1), .val (.int p2), .val (.long q3), .second, .val (.int v1), .val (.int v2), .val (.int v4), .val (.int v6), .val (.long v8), .second, .unset, .unset, .unset, .unset, .unset, .unset, .unset, .unset, .unset, .unset, .unset, .unset, .unset, .unset, .unset, .unset, .unset] [(.int v6)])) _
    refine J55_9 _ rfl _ ?_
    show Steps p.tables e below (s₁.setTop (mkF m 66 #[.val (.int p0), .val (.int p1), .val (.int p2), .val (.long q3), .second, .val (.int v1), .val (.int v2), .val (.int v4), .val (.int v6), .val (.long v8), .second, .unset, .unset, .unset, .unset, .unset, .unset, .unset, .unset, .unset, .unset, .unset, .unset, .unset, .unset, .unset, .unset, .unset] [(.long (if v6 = (0 : Int32) then ((1 : Int64) <<< (v2 &&& 0x3f).toInt64) else (0 : Int64)))])) _
    rw [← ev10]
    show Steps p.tables e below (s₁.setTop (mkF m 66 #[.val (.int p0), .val (.int p1), .val (.int p2), .val (.long q3), .second, .val (.int v1), .val (.int v2), .val (.int v4), .val (.int v6), .val (.long v8), .second, .unset, .unset, .unset, .unset, .unset, .unset, .unset, .unset, .unset, .unset, .unset, .unset, .unset, .unset, .unset, .unset, .unset] [(.long v10)])) _
    refine XS.lstore X0.here hx rfl (hb hby at_66) rfl (l' := #[.val (.int p0), .val (.int p1), .val (.int p2), .val (.long q3), .second, .val (.int v1), .val (.int v2), .val (.int v4), .val (.int v6), .val (.long v8), .second, .val (.long v10), .second, .unset, .unset, .unset, .unset, .unset, .unset, .unset, .unset, .unset, .unset, .unset, .unset, .unset, .unset, .unset]) rfl ?_
    refine XS.lload X0.here hx rfl (hb hby at_68) rfl ?_
    refine XS.lload X0.here hx rfl (hb hby at_70) rfl ?_
    refine XS.lsub X0.here hx rfl (hb hby at_72) rfl ?_
    show Steps p.tables e below (s₁.setTop (mkF m 73 #[.val (.int p0), .val (.int p1), .val (.int p2), .val (.long q3), .second, .val (.int v1), .val (.int v2), .val (.int v4), .val (.int v6), .val (.long v8), .second, .val (.long v10), .second, .unset, .unset, .unset, .unset, .unset, .unset, .unset, .unset, .unset, .unset, .unset, .unset, .unset, .unset, .unset] [(.long (v10 - v8))])) _
    rw [← ev11]
    show Steps p.tables e below (s₁.setTop (mkF m 73 #[.val (.int p0), .val (.int p1), .val (.int p2), .val (.long q3), .second, .val (.int v1), .val (.int v2), .val (.int v4), .val (.int v6), .val (.long v8), .second, .val (.long v10), .second, .unset, .unset, .unset, .unset, .unset, .unset, .unset, .unset, .unset, .unset, .unset, .unset, .unset, .unset, .unset] [(.long v11)])) _
    refine XS.lstore X0.here hx rfl (hb hby at_73) rfl (l' := #[.val (.int p0), .val (.int p1), .val (.int p2), .val (.long q3), .second, .val (.int v1), .val (.int v2), .val (.int v4), .val (.int v6), .val (.long v8), .second, .val (.long v10), .second, .val (.long v11), .second, .unset, .unset, .unset, .unset, .unset, .unset, .unset, .unset, .unset, .unset, .unset, .unset, .unset]) rfl ?_
    refine XS.lloadN X0.here hx rfl (hb hby at_75) rfl ?_
    refine X0.ldc2Long hx hown (mvT hZ (hw _ (List.mem_of_getElem? (i := 0) rfl))) (g := (mkF m 76 #[.val (.int p0), .val (.int p1), .val (.int p2), .val (.long q3), .second, .val (.int v1), .val (.int v2), .val (.int v4), .val (.int v6), .val (.long v8), .second, .val (.long v10), .second, .val (.long v11), .second, .unset, .unset, .unset, .unset, .unset, .unset, .unset, .unset, .unset, .unset, .unset, .unset, .unset] [(.long q3)])) rfl (hb hby at_76) _ ?_
    refine XS.land X0.here hx rfl (hb hby at_79) rfl ?_
    show Steps p.tables e below (s₁.setTop (mkF m 80 #[.val (.int p0), .val (.int p1), .val (.int p2), .val (.long q3), .second, .val (.int v1), .val (.int v2), .val (.int v4), .val (.int v6), .val (.long v8), .second, .val (.long v10), .second, .val (.long v11), .second, .unset, .unset, .unset, .unset, .unset, .unset, .unset, .unset, .unset, .unset, .unset, .unset, .unset] [(.long (q3 &&& (1073741823 : Int64)))])) _
    rw [← ev12]
    show Steps p.tables e below (s₁.setTop (mkF m 80 #[.val (.int p0), .val (.int p1), .val (.int p2), .val (.long q3), .second, .val (.int v1), .val (.int v2), .val (.int v4), .val (.int v6), .val (.long v8), .second, .val (.long v10), .second, .val (.long v11), .second, .unset, .unset, .unset, .unset, .unset, .unset, .unset, .unset, .unset, .unset, .unset, .unset, .unset] [(.long v12)])) _
    refine XS.lstore X0.here hx rfl (hb hby at_80) rfl (l' := #[.val (.int p0), .val (.int p1), .val (.int p2), .val (.long q3), .second, .val (.int v1), .val (.int v2), .val (.int v4), .val (.int v6), .val (.long v8), .second, .val (.long v10), .second, .val (.long v11), .second, .val (.long v12), .second, .unset, .unset, .unset, .unset, .unset, .unset, .unset, .unset, .unset, .unset, .unset]) rfl ?_
    refine XS.lload X0.here hx rfl (hb hby at_82) rfl ?_
    refine XS.lconst X0.here hx rfl (hb hby at_84) ?_
    refine XS.lload X0.here hx rfl (hb hby at_85) rfl ?_
    show Steps p.tables e below (s₁.setTop (mkF m 87 #[.val (.int p0), .val (.int p1), .val (.int p2), .val (.long q3), .second, .val (.int v1), .val (.int v2), .val (.int v4), .val (.int v6), .val (.long v8), .second, .val (.long v10), .second, .val (.long v11), .second, .val (.long v12), .second, .unset, .unset, .unset, .unset, .unset, .unset, .unset, .unset, .unset, .unset, .unset] [(.long v11), (.long (0 : Int64)), (.long v12)])) _
    refine XS.lneg X0.here hx rfl (hb hby at_87) rfl ?_
    refine st13 _ ?_
    refine XS.ladd X13.here hx rfl (hb hby at_91) rfl ?_
    show Steps p.tables e below (T13.setTop (mkF m 92 #[.val (.int p0), .val (.int p1), .val (.int p2), .val (.long q3), .second, .val (.int v1), .val (.int v2), .val (.int v4), .val (.int v6), .val (.long v8), .second, .val (.long v10), .second, .val (.long v11), .second, .val (.long v12), .second, .unset, .unset, .unset, .unset, .unset, .unset, .unset, .unset, .unset, .unset, .unset] [(.long (v12 + (own_X (0 : Int64) (-v11))))])) _
    rw [← ev14]
    show Steps p.tables e below (T13.setTop (mkF m 92 #[.val (.int p0), .val (.int p1), .val (.int p2), .val (.long q3), .second, .val (.int v1), .val (.int v2), .val (.int v4), .val (.int v6), .val (.long v8), .second, .val (.long v10), .second, .val (.long v11), .second, .val (.long v12), .second, .unset, .unset, .unset, .unset, .unset, .unset, .unset, .unset, .unset, .unset, .unset] [(.long v14)])) _
    refine XS.lstore X13.here hx rfl (hb hby at_92) rfl (l' := #[.val (.int p0), .val (.int p1), .val (.int p2), .val (.long q3), .second, .val (.int v1), .val (.int v2), .val (.int v4), .val (.int v6), .val (.long v8), .second, .val (.long v10), .second, .val (.long v11), .second, .val (.long v12), .second, .val (.long v14), .second, .unset, .unset, .unset, .unset, .unset, .unset, .unset, .unset, .unset]) rfl ?_
    show Steps p.tables e below (T13.setTop (mkF m 94 #[.val (.int p0), .val (.int p1), .val (.int p2), .val (.long q3), .second, .val (.int v1), .val (.int v2), .val (.int v4), .val (.int v6), .val (.long v8), .second, .val (.long v10), .second, .val (.long v11), .second, .val (.long v12), .second, .val (.long v14), .second, .unset, .unset, .unset, .unset, .unset, .unset, .unset, .unset, .unset] [])) _
    refine XS.lload X13.here hx rfl (hb hby at_94) rfl ?_
    refine XS.lload X13.here hx rfl (hb hby at_96) rfl ?_
    refine XS.lconst X13.here hx rfl (hb hby at_98) ?_
    refine st15 _ ?_
    show Steps p.tables e below (T15.setTop (mkF m 102 #[.val (.int p0), .val (.int p1), .val (.int p2), .val (.long q3), .second, .val (.int v1), .val (.int v2), .val (.int v4), .val (.int v6), .val (.long v8), .second, .val (.long v10), .second, .val (.long v11), .second, .val (.long v12), .second, .val (.long v14), .second, .unset, .unset, .unset, .unset, .unset, .unset, .unset, .unset, .unset] [(.long (own_X v11 (0 : Int64))), (.long v12)])) _
    refine XS.ladd X15.here hx rfl (hb hby at_102) rfl ?_
    show Steps p.tables e below (T15.setTop (mkF m 103 #[.val (.int p0), .val (.int p1), .val (.int p2), .val (.long q3), .second, .val (.int v1), .val (.int v2), .val (.int v4), .val (.int v6), .val (.long v8), .second, .val (.long v10), .second, .val (.long v11), .second, .val (.long v12), .second, .val (.long v14), .second, .unset, .unset, .unset, .unset, .unset, .unset, .unset, .unset, .unset] [(.long (v12 + (own_X v11 (0 : Int64))))])) _
    rw [← ev16]
    show Steps p.tables e below (T15.setTop (mkF m 103 #[.val (.int p0), .val (.int p1), .val (.int p2), .val (.long q3), .second, .val (.int v1), .val (.int v2), .val (.int v4), .val (.int v6), .val (.long v8), .second, .val (.long v10), .second, .val (.long v11), .second, .val (.long v12), .second, .val (.long v14), .second, .unset, .unset, .unset, .unset, .unset, .unset, .unset, .unset, .unset] [(.long v16)])) _
    refine XS.lstore X15.here hx rfl (hb hby at_103) rfl (l' := #[.val (.int p0), .val (.int p1), .val (.int p2), .val (.long q3), .second, .val (.int v1), .val (.int v2), .val (.int v4), .val (.int v6), .val (.long v8), .second, .val (.long v10), .second, .val (.long v11), .second, .val (.long v12), .second, .val (.long v14), .second, .val (.long v16), .second, .unset, .unset, .unset, .unset, .unset, .unset, .unset]) rfl ?_
    refine st17 _ ?_
    refine XS.dup X17.here hx rfl (hb hby at_108) rfl rfl ?_
    show Steps p.tables e below (T17.setTop (mkF m 109 #[.val (.int p0), .val (.int p1), .val (.int p2), .val (.long q3), .second, .val (.int v1), .val (.int v2), .val (.int v4), .val (.int v6), .val (.long v8), .second, .val (.long v10), .second, .val (.long v11), .second, .val (.long v12), .second, .val (.long v14), .second, .val (.long v16), .second, .unset, .unset, .unset, .unset, .unset, .unset, .unset] [(.ref b17), (.ref b17)])) _
    refine XS.lload X17.here hx rfl (hb hby at_109) rfl ?_
    refine XS.lload X17.here hx rfl (hb hby at_111) rfl ?_
    refine XS.lload X17.here hx rfl (hb hby at_113) rfl ?_
    refine XS.lload X17.here hx rfl (hb hby at_115) rfl ?_
    show Steps p.tables e below (T17.setTop (mkF m 117 #[.val (.int p0), .val (.int p1), .val (.int p2), .val (.long q3), .second, .val (.int v1), .val (.int v2), .val (.int v4), .val (.int v6), .val (.long v8), .second, .val (.long v10), .second, .val (.long v11), .second, .val (.long v12), .second, .val (.long v14), .second, .val (.long v16), .second, .unset, .unset, .unset, .unset, .unset, .unset, .unset] [(.long v16), (.long v14), (.long v10), (.long v8), (.ref b17), (.ref b17)])) _
    refine st18.trans ?_
    refine XS.astore X18.here hx rfl (hb hby at_120) rfl rfl (l' := #[.val (.int p0), .val (.int p1), .val (.int p2), .val (.long q3), .second, .val (.int v1), .val (.int v2), .val (.int v4), .val (.int v6), .val (.long v8), .second, .val (.long v10), .second, .val (.long v11), .second, .val (.long v12), .second, .val (.long v14), .second, .val (.long v16), .second, .val (.ref b17), .unset, .unset, .unset, .unset, .unset, .unset]) rfl ?_
    refine XS.iload X18.here hx rfl (hb hby at_122) rfl ?_
    exact kt
  refine Done.of ?_ K19
  by_cases hc124_20 : v4 = (0 : Int32)
  · have K : ∀ target, Steps p.tables e below (T18.setTop (mkF m 133 #[.val (.int p0), .val (.int p1), .val (.int p2), .val (.long q3), .second, .val (.int v1), .val (.int v2), .val (.int v4), .val (.int v6), .val (.long v8), .second, .val (.long v10), .second, .val (.long v11), .second, .val (.long v12), .second, .val (.long v14), .second, .val (.long v16), .second, .val (.ref b17), .unset, .unset, .unset, .unset, .unset, .unset] [])) target → Steps p.tables e below (T18.setTop (mkF m 124 #[.val (.int p0), .val (.int p1), .val (.int p2), .val (.long q3), .second, .val (.int v1), .val (.int v2), .val (.int v4), .val (.int v6), .val (.long v8), .second, .val (.long v10), .second, .val (.long v11), .second, .val (.long v12), .second, .val (.long v14), .second, .val (.long v16), .second, .val (.ref b17), .unset, .unset, .unset, .unset, .unset, .unset] [(.int v4)])) target := by
      intro target kt
      refine XS.ifYes X18.here hx rfl (pc0 := 124) (pc' := 133) rfl (hb hby at_124) rfl ((if0 _ _).trans (teq hc124_20).1) (by decide) (by decide) ?_
      exact kt
    refine Done.of ?_ K
    obtain ⟨v21, ev21⟩ : ∃ z : Int64, z = ((v8 - v14) * ((1 : Int64) <<< (((16 : Int32) - v1) &&& 0x3f).toInt64)) := ⟨_, rfl⟩
    have K22 : ∀ target, Steps p.tables e below (T18.setTop (mkF m 150 #[.val (.int p0), .val (.int p1), .val (.int p2), .val (.long q3), .second, .val (.int v1), .val (.int v2), .val (.int v4), .val (.int v6), .val (.long v8), .second, .val (.long v10), .second, .val (.long v11), .second, .val (.long v12), .second, .val (.long v14), .second, .val (.long v16), .second, .val (.ref b17), .val (.long v21), .second, .unset, .unset, .unset, .unset] [(.int v6)])) target → Steps p.tables e below (T18.setTop (mkF m 133 #[.val (.int p0), .val (.int p1), .val (.int p2), .val (.long q3), .second, .val (.int v1), .val (.int v2), .val (.int v4), .val (.int v6), .val (.long v8), .second, .val (.long v10), .second, .val (.long v11), .second, .val (.long v12), .second, .val (.long v14), .second, .val (.long v16), .second, .val (.ref b17), .unset, .unset, .unset, .unset, .unset, .unset] [])) target := by
      intro target kt
      refine XS.lload X18.here hx rfl (hb hby at_133) rfl ?_
      show Steps p.tables e below (T18.setTop (mkF m 135 #[.val (.int p0), .val (.int p1), .val (.int p2), .val (.long q3), .second, .val (.int v1), .val (.int v2), .val (.int v4), .val (.int v6), .val (.long v8), .second, .val (.long v10), .second, .val (.long v11), .second, .val (.long v12), .second, .val (.long v14), .second, .val (.long v16), .second, .val (.ref b17), .unset, .unset, .unset, .unset, .unset, .unset] [(.long v8)])) _
      refine XS.lload X18.here hx rfl (hb hby at_135) rfl ?_
      refine XS.lsub X18.here hx rfl (hb hby at_137) rfl ?_
      refine XS.lconst X18.here hx rfl (hb hby at_138) ?_
      refine XS.bipush X18.here hx rfl (hb hby at_139) ?_
      show Steps p.tables e below (T18.setTop (mkF m 141 #[.val (.int p0), .val (.int p1), .val (.int p2), .val (.long q3), .second, .val (.int v1), .val (.int v2), .val (.int v4), .val (.int v6), .val (.long v8), .second, .val (.long v10), .second, .val (.long v11), .second, .val (.long v12), .second, .val (.long v14), .second, .val (.long v16), .second, .val (.ref b17), .unset, .unset, .unset, .unset, .unset, .unset] [(.int (16 : Int32)), (.long (1 : Int64)), (.long (v8 - v14))])) _
      refine XS.iload X18.here hx rfl (hb hby at_141) rfl ?_
      refine XS.isub X18.here hx rfl (hb hby at_143) rfl ?_
      refine XS.lshl X18.here hx rfl (hb hby at_144) rfl ?_
      refine XS.lmul X18.here hx rfl (hb hby at_145) rfl ?_
      show Steps p.tables e below (T18.setTop (mkF m 146 #[.val (.int p0), .val (.int p1), .val (.int p2), .val (.long q3), .second, .val (.int v1), .val (.int v2), .val (.int v4), .val (.int v6), .val (.long v8), .second, .val (.long v10), .second, .val (.long v11), .second, .val (.long v12), .second, .val (.long v14), .second, .val (.long v16), .second, .val (.ref b17), .unset, .unset, .unset, .unset, .unset, .unset] [(.long ((v8 - v14) * ((1 : Int64) <<< (((16 : Int32) - v1) &&& 0x3f).toInt64)))])) _
      rw [← ev21]
      show Steps p.tables e below (T18.setTop (mkF m 146 #[.val (.int p0), .val (.int p1), .val (.int p2), .val (.long q3), .second, .val (.int v1), .val (.int v2), .val (.int v4), .val (.int v6), .val (.long v8), .second, .val (.long v10), .second, .val (.long v11), .second, .val (.long v12), .second, .val (.long v14), .second, .val (.long v16), .second, .val (.ref b17), .unset, .unset, .unset, .unset, .unset, .unset] [(.long v21)])) _
      refine XS.lstore X18.here hx rfl (hb hby at_146) rfl (l' := #[.val (.int p0), .val (.int p1), .val (.int p2), .val (.long q3), .second, .val (.int v1), .val (.int v2), .val (.int v4), .val (.int v6), .val (.long v8), .second, .val (.long v10), .second, .val (.long v11), .second, .val (.long v12), .second, .val (.long v14), .second, .val (.long v16), .second, .val (.ref b17), .val (.long v21), .second, .unset, .unset, .unset, .unset]) rfl ?_
      refine XS.iload X18.here hx rfl (hb hby at_148) rfl ?_
      exact kt
    refine Done.of ?_ K22
    by_cases hc150_23 : v6 = (0 : Int32)
    · have K : ∀ target, Steps p.tables e below (T18.setTop (mkF m 159 #[.val (.int p0), .val (.int p1), .val (.int p2), .val (.long q3), .second, .val (.int v1), .val (.int v2), .val (.int v4), .val (.int v6), .val (.long v8), .second, .val (.long v10), .second, .val (.long v11), .second, .val (.long v12), .second, .val (.long v14), .second, .val (.long v16), .second, .val (.ref b17), .val (.long v21), .second, .unset, .unset, .unset, .unset] [])) target → Steps p.tables e below (T18.setTop (mkF m 150 #[.val (.int p0), .val (.int p1), .val (.int p2), .val (.long q3), .second, .val (.int v1), .val (.int v2), .val (.int v4), .val (.int v6), .val (.long v8), .second, .val (.long v10), .second, .val (.long v11), .second, .val (.long v12), .second, .val (.long v14), .second, .val (.long v16), .second, .val (.ref b17), .val (.long v21), .second, .unset, .unset, .unset, .unset] [(.int v6)])) target := by
        intro target kt
        refine XS.ifYes X18.here hx rfl (pc0 := 150) (pc' := 159) rfl (hb hby at_150) rfl ((if0 _ _).trans (teq hc150_23).1) (by decide) (by decide) ?_
        exact kt
      refine Done.of ?_ K
      obtain ⟨v24, ev24⟩ : ∃ z : Int64, z = ((v10 - v16) * ((1 : Int64) <<< (((16 : Int32) - v2) &&& 0x3f).toInt64)) := ⟨_, rfl⟩
      obtain ⟨k1, hk1, ha1, hc1⟩ := (HC.resolve_left (fun q => q.1 hc124_20)).2
      have S1 := Own.s1 hk1 hc1 MR.1.1 MR.1.2
      have ne1 := own_n hk1 ha1 hc1 MR.1 ev21
      obtain ⟨k2, hk2, ha2, hc2⟩ := (HP.resolve_left (fun q => q.1 hc150_23)).2
      have S2 := Own.s1 hk2 hc2 MR.2.1.1 MR.2.1.2
      have ne2 := own_n hk2 ha2 hc2 MR.2.1 ev24
      have FL := Own.fin_law S1 S2 (Nat.le_trans ne1.2 (by decide)) (Nat.le_trans ne2.2 (by decide)) (own_ns ne1.1 ne2.1 ne1.2 ne2.2)
      obtain ⟨cq25, kq25, q25a, q25b, q25c⟩ := isOf hZ rfl EI18
      obtain ⟨_, _, ⟨T25, L25, k25, n25⟩, -, X25, ⟨Lc25, hQ25, l25, y25, z25⟩, st25⟩ := X18.virtualBack hx (y := (⟨"com/example/ensyn/ensyn/replay/TokenCounts", "fitness", "()D"⟩ : MethodName)) (z := (⟨"com/example/ensyn/ensyn/replay/TokenCounts", "fitness", "()D"⟩ : MethodName)) hown (mvT hZ (hw _ (List.mem_of_getElem? (i := 28) rfl))) (mvT hZ (hw _ (List.mem_of_getElem? (i := 29) rfl))) (notFace_of_selects (args := #[]) (mvT hZ (hw _ (List.mem_of_getElem? (i := 31) rfl)))) (mvT hZ (hw _ (List.mem_of_getElem? (i := 31) rfl))) (mvT hZ (hw _ (List.mem_of_getElem? (i := 30) rfl))) (by decide) (backOf (W := 0) (rm5 l Z a0 hw [] b17 v8 v10 v14 v16 _ _ T18.heap n0 Z18 EI18 F18_0 F18_1 F18_2 F18_3 S1 S2 FL.1) hZ (hw _ (List.mem_of_getElem? (i := 32) rfl)) (hw _ (List.mem_of_getElem? (i := 7) rfl)) (by decide) (by decide)) q25a q25c (g := (mkF m 176 #[.val (.int p0), .val (.int p1), .val (.int p2), .val (.long q3), .second, .val (.int v1), .val (.int v2), .val (.int v4), .val (.int v6), .val (.long v8), .second, .val (.long v10), .second, .val (.long v11), .second, .val (.long v12), .second, .val (.long v14), .second, .val (.long v16), .second, .val (.ref b17), .val (.long v21), .second, .val (.long v24), .second, .unset, .unset] [(.ref b17)])) rfl (by rw [hml]; rfl) (Steps.refl _) (argsL := []) (rest := []) (lenOf pd_4 rfl) rfl (by show 2 * 0 + _ ≤ _; exact Nat.le_of_eq rfl) (hb hby at_176) (fun _ _ => ⟨rfl, rfl, (by decide : 1 + 0 ≤ _), (by decide : 4 + 0 ≤ _)⟩)
      dsimp only [Pt.U, Pt.locs, Pt.cells, Pt.slots] at X25 l25 y25 z25 st25 hQ25
      rw [l25, y25, z25] at X25
      obtain ⟨rfl, N25q, e25⟩ := hQ25
      have N25 := Fr.app N18 N25q
      have hd194_26 : (cmpValue (FP.dcmp (FP.dmul (Own.fitn v14 v8 v16 v10) (4683743612465315840 : UInt64)) (FP.l2d (v21 + v24))) .l) = (0 : Int32) := by exact (congrArg (fun o => cmpValue o .l) FL.2.2).trans rfl
      obtain ⟨fs, hr, hrun, hended, hW, hsame⟩ := X25.leave (v := some (.int (1 : Int32))) (fun h => by rw [Bd.returns] at h; cases h)
      refine ⟨_, _, ?_, hrun, hended, _, _, rfl, ?_, ⟨_, rfl⟩, hW, hsame.mono (by decide) (by decide)⟩
      · refine XS.lload X18.here hx rfl (hb hby at_159) rfl ?_
        refine XS.lload X18.here hx rfl (hb hby at_161) rfl ?_
        show Steps p.tables e below (T18.setTop (mkF m 163 #[.val (.int p0), .val (.int p1), .val (.int p2), .val (.long q3), .second, .val (.int v1), .val (.int v2), .val (.int v4), .val (.int v6), .val (.long v8), .second, .val (.long v10), .second, .val (.long v11), .second, .val (.long v12), .second, .val (.long v14), .second, .val (.long v16), .second, .val (.ref b17), .val (.long v21), .second, .unset, .unset, .unset, .unset] [(.long v16), (.long v10)])) _
        refine XS.lsub X18.here hx rfl (hb hby at_163) rfl ?_
        refine XS.lconst X18.here hx rfl (hb hby at_164) ?_
        refine XS.bipush X18.here hx rfl (hb hby at_165) ?_
        refine XS.iload X18.here hx rfl (hb hby at_167) rfl ?_
        show Steps p.tables e below (T18.setTop (mkF m 169 #[.val (.int p0), .val (.int p1), .val (.int p2), .val (.long q3), .second, .val (.int v1), .val (.int v2), .val (.int v4), .val (.int v6), .val (.long v8), .second, .val (.long v10), .second, .val (.long v11), .second, .val (.long v12), .second, .val (.long v14), .second, .val (.long v16), .second, .val (.ref b17), .val (.long v21), .second, .unset, .unset, .unset, .unset] [(.int v2), (.int (16 : Int32)), (.long (1 : Int64)), (.long (v10 - v16))])) _
        refine XS.isub X18.here hx rfl (hb hby at_169) rfl ?_
        refine XS.lshl X18.here hx rfl (hb hby at_170) rfl ?_
        refine XS.lmul X18.here hx rfl (hb hby at_171) rfl ?_
        show Steps p.tables e below (T18.setTop (mkF m 172 #[.val (.int p0), .val (.int p1), .val (.int p2), .val (.long q3), .second, .val (.int v1), .val (.int v2), .val (.int v4), .val (.int v6), .val (.long v8), .second, .val (.long v10), .second, .val (.long v11), .second, .val (.long v12), .second, .val (.long v14), .second, .val (.long v16), .second, .val (.ref b17), .val (.long v21), .second, .unset, .unset, .unset, .unset] [(.long ((v10 - v16) * ((1 : Int64) <<< (((16 : Int32) - v2) &&& 0x3f).toInt64)))])) _
        rw [← ev24]
        show Steps p.tables e below (T18.setTop (mkF m 172 #[.val (.int p0), .val (.int p1), .val (.int p2), .val (.long q3), .second, .val (.int v1), .val (.int v2), .val (.int v4), .val (.int v6), .val (.long v8), .second, .val (.long v10), .second, .val (.long v11), .second, .val (.long v12), .second, .val (.long v14), .second, .val (.long v16), .second, .val (.ref b17), .val (.long v21), .second, .unset, .unset, .unset, .unset] [(.long v24)])) _
        refine XS.lstore X18.here hx rfl (hb hby at_172) rfl (l' := #[.val (.int p0), .val (.int p1), .val (.int p2), .val (.long q3), .second, .val (.int v1), .val (.int v2), .val (.int v4), .val (.int v6), .val (.long v8), .second, .val (.long v10), .second, .val (.long v11), .second, .val (.long v12), .second, .val (.long v14), .second, .val (.long v16), .second, .val (.ref b17), .val (.long v21), .second, .val (.long v24), .second, .unset, .unset]) rfl ?_
        show Steps p.tables e below (T18.setTop (mkF m 174 #[.val (.int p0), .val (.int p1), .val (.int p2), .val (.long q3), .second, .val (.int v1), .val (.int v2), .val (.int v4), .val (.int v6), .val (.long v8), .second, .val (.long v10), .second, .val (.long v11), .second, .val (.long v12), .second, .val (.long v14), .second, .val (.long v16), .second, .val (.ref b17), .val (.long v21), .second, .val (.long v24), .second, .unset, .unset] [])) _
        refine XS.aload X18.here hx rfl (hb hby at_174) rfl rfl ?_
        refine st25.trans ?_
        refine XS.dstore X25.here hx rfl (hb hby at_179) rfl (l' := #[.val (.int p0), .val (.int p1), .val (.int p2), .val (.long q3), .second, .val (.int v1), .val (.int v2), .val (.int v4), .val (.int v6), .val (.long v8), .second, .val (.long v10), .second, .val (.long v11), .second, .val (.long v12), .second, .val (.long v14), .second, .val (.long v16), .second, .val (.ref b17), .val (.long v21), .second, .val (.long v24), .second, .val (.double (Own.fitn v14 v8 v16 v10)), .second]) rfl ?_
        refine XS.dload X25.here hx rfl (hb hby at_181) rfl ?_
        show Steps p.tables e below (T25.setTop (mkF m 183 #[.val (.int p0), .val (.int p1), .val (.int p2), .val (.long q3), .second, .val (.int v1), .val (.int v2), .val (.int v4), .val (.int v6), .val (.long v8), .second, .val (.long v10), .second, .val (.long v11), .second, .val (.long v12), .second, .val (.long v14), .second, .val (.long v16), .second, .val (.ref b17), .val (.long v21), .second, .val (.long v24), .second, .val (.double (Own.fitn v14 v8 v16 v10)), .second] [(.double (Own.fitn v14 v8 v16 v10))])) _
        refine X25.ldc2DoubleC hx hown (mvT hZ (hw _ (List.mem_of_getElem? (i := 37) rfl))) (g := (mkF m 183 #[.val (.int p0), .val (.int p1), .val (.int p2), .val (.long q3), .second, .val (.int v1), .val (.int v2), .val (.int v4), .val (.int v6), .val (.long v8), .second, .val (.long v10), .second, .val (.long v11), .second, .val (.long v12), .second, .val (.long v14), .second, .val (.long v16), .second, .val (.ref b17), .val (.long v21), .second, .val (.long v24), .second, .val (.double (Own.fitn v14 v8 v16 v10)), .second] [(.double (Own.fitn v14 v8 v16 v10))])) rfl (hb hby at_183) _ ?_
        refine XS.dmulS X25.here hx rfl (hb hby at_186) rfl (own_nn FL.2.1) rfl ?_
        refine XS.lload X25.here hx rfl (hb hby at_187) rfl ?_
        refine XS.lload X25.here hx rfl (hb hby at_189) rfl ?_
        show Steps p.tables e below (T25.setTop (mkF m 191 #[.val (.int p0), .val (.int p1), .val (.int p2), .val (.long q3), .second, .val (.int v1), .val (.int v2), .val (.int v4), .val (.int v6), .val (.long v8), .second, .val (.long v10), .second, .val (.long v11), .second, .val (.long v12), .second, .val (.long v14), .second, .val (.long v16), .second, .val (.ref b17), .val (.long v21), .second, .val (.long v24), .second, .val (.double (Own.fitn v14 v8 v16 v10)), .second] [(.long v24), (.long v21), (.double (FP.dmul (Own.fitn v14 v8 v16 v10) (4683743612465315840 : UInt64)))])) _
        refine XS.ladd X25.here hx rfl (hb hby at_191) rfl ?_
        refine XS.l2dS X25.here hx rfl (hb hby at_192) rfl rfl ?_
        refine XS.dcmpS X25.here hx rfl (hb hby at_193) rfl rfl ?_
        show Steps p.tables e below (T25.setTop (mkF m 194 #[.val (.int p0), .val (.int p1), .val (.int p2), .val (.long q3), .second, .val (.int v1), .val (.int v2), .val (.int v4), .val (.int v6), .val (.long v8), .second, .val (.long v10), .second, .val (.long v11), .second, .val (.long v12), .second, .val (.long v14), .second, .val (.long v16), .second, .val (.ref b17), .val (.long v21), .second, .val (.long v24), .second, .val (.double (Own.fitn v14 v8 v16 v10)), .second] [(.int (cmpValue (FP.dcmp (FP.dmul (Own.fitn v14 v8 v16 v10) (4683743612465315840 : UInt64)) (FP.l2d (v21 + v24))) .l))])) _
        refine XS.ifNo X25.here hx rfl (hb hby at_194) rfl ((if0 _ _).trans (teq hd194_26).2) ?_
        refine XS.iconst X25.here hx rfl (hb hby at_197) ?_
        show Steps p.tables e below (T25.setTop (mkF m 198 #[.val (.int p0), .val (.int p1), .val (.int p2), .val (.long q3), .second, .val (.int v1), .val (.int v2), .val (.int v4), .val (.int v6), .val (.long v8), .second, .val (.long v10), .second, .val (.long v11), .second, .val (.long v12), .second, .val (.long v14), .second, .val (.long v16), .second, .val (.ref b17), .val (.long v21), .second, .val (.long v24), .second, .val (.double (Own.fitn v14 v8 v16 v10)), .second] [(.int (1 : Int32))])) _
        refine XS.goto X25.here hx rfl (pc0 := 198) (pc' := 202) rfl (hb hby at_198) (by decide) (by decide) ?_
        show Steps p.tables e below (T25.setTop (mkF m 202 #[.val (.int p0), .val (.int p1), .val (.int p2), .val (.long q3), .second, .val (.int v1), .val (.int v2), .val (.int v4), .val (.int v6), .val (.long v8), .second, .val (.long v10), .second, .val (.long v11), .second, .val (.long v12), .second, .val (.long v14), .second, .val (.long v16), .second, .val (.ref b17), .val (.long v21), .second, .val (.long v24), .second, .val (.double (Own.fitn v14 v8 v16 v10)), .second] [(.int (1 : Int32))])) _
        exact retN X25 hx (t := .boolean) Bd.returns (by simp) (hb hby at_202) hr
      · show Q0 Z p0 p1 p2 q3  h0 n0 _ T25.heap _
        rw [e25]
        exact ⟨rfl, N25⟩
    · have K : ∀ target, Steps p.tables e below (T18.setTop (mkF m 153 #[.val (.int p0), .val (.int p1), .val (.int p2), .val (.long q3), .second, .val (.int v1), .val (.int v2), .val (.int v4), .val (.int v6), .val (.long v8), .second, .val (.long v10), .second, .val (.long v11), .second, .val (.long v12), .second, .val (.long v14), .second, .val (.long v16), .second, .val (.ref b17), .val (.long v21), .second, .unset, .unset, .unset, .unset] [])) target → Steps p.tables e below (T18.setTop (mkF m 150 #[.val (.int p0), .val (.int p1), .val (.int p2), .val (.long q3), .second, .val (.int v1), .val (.int v2), .val (.int v4), .val (.int v6), .val (.long v8), .second, .val (.long v10), .second, .val (.long v11), .second, .val (.long v12), .second, .val (.long v14), .second, .val (.long v16), .second, .val (.ref b17), .val (.long v21), .second, .unset, .unset, .unset, .unset] [(.int v6)])) target := by
        intro target kt
        refine XS.ifNo X18.here hx rfl (hb hby at_150) rfl ((if0 _ _).trans (feq hc150_23).1) ?_
        exact kt
      refine Done.of ?_ K
      obtain ⟨v27, ev27⟩ : ∃ z : Int64, z = (65536 : Int64) := ⟨_, rfl⟩
      obtain ⟨k1, hk1, ha1, hc1⟩ := (HC.resolve_left (fun q => q.1 hc124_20)).2
      have S1 := Own.s1 hk1 hc1 MR.1.1 MR.1.2
      have ne1 := own_n hk1 ha1 hc1 MR.1 ev21
      have c02 : v10 = 0 := (HP.resolve_right (fun q => hc150_23 q.1)).2
      have S2 : Own.S 65536 v16 v10 := by rw [c02]; exact Own.s0 _
      have ne2 : v27.toInt = 65536 ∧ (65536 : Int).natAbs ≤ 2 ^ 49 := ⟨by rw [ev27]; decide, by decide⟩
      have FL := Own.fin_law S1 S2 (Nat.le_trans ne1.2 (by decide)) (Nat.le_trans ne2.2 (by decide)) (own_ns ne1.1 ne2.1 ne1.2 ne2.2)
      obtain ⟨cq28, kq28, q28a, q28b, q28c⟩ := isOf hZ rfl EI18
      obtain ⟨_, _, ⟨T28, L28, k28, n28⟩, -, X28, ⟨Lc28, hQ28, l28, y28, z28⟩, st28⟩ := X18.virtualBack hx (y := (⟨"com/example/ensyn/ensyn/replay/TokenCounts", "fitness", "()D"⟩ : MethodName)) (z := (⟨"com/example/ensyn/ensyn/replay/TokenCounts", "fitness", "()D"⟩ : MethodName)) hown (mvT hZ (hw _ (List.mem_of_getElem? (i := 28) rfl))) (mvT hZ (hw _ (List.mem_of_getElem? (i := 29) rfl))) (notFace_of_selects (args := #[]) (mvT hZ (hw _ (List.mem_of_getElem? (i := 31) rfl)))) (mvT hZ (hw _ (List.mem_of_getElem? (i := 31) rfl))) (mvT hZ (hw _ (List.mem_of_getElem? (i := 30) rfl))) (by decide) (backOf (W := 0) (rm5 l Z a0 hw [] b17 v8 v10 v14 v16 _ _ T18.heap n0 Z18 EI18 F18_0 F18_1 F18_2 F18_3 S1 S2 FL.1) hZ (hw _ (List.mem_of_getElem? (i := 32) rfl)) (hw _ (List.mem_of_getElem? (i := 7) rfl)) (by decide) (by decide)) q28a q28c (g := (mkF m 176 #[.val (.int p0), .val (.int p1), .val (.int p2), .val (.long q3), .second, .val (.int v1), .val (.int v2), .val (.int v4), .val (.int v6), .val (.long v8), .second, .val (.long v10), .second, .val (.long v11), .second, .val (.long v12), .second, .val (.long v14), .second, .val (.long v16), .second, .val (.ref b17), .val (.long v21), .second, .val (.long v27), .second, .unset, .unset] [(.ref b17)])) rfl (by rw [hml]; rfl) (Steps.refl _) (argsL := []) (rest := []) (lenOf pd_4 rfl) rfl (by show 2 * 0 + _ ≤ _; exact Nat.le_of_eq rfl) (hb hby at_176) (fun _ _ => ⟨rfl, rfl, (by decide : 1 + 0 ≤ _), (by decide : 4 + 0 ≤ _)⟩)
      dsimp only [Pt.U, Pt.locs, Pt.cells, Pt.slots] at X28 l28 y28 z28 st28 hQ28
      rw [l28, y28, z28] at X28
      obtain ⟨rfl, N28q, e28⟩ := hQ28
      have N28 := Fr.app N18 N28q
      have hd194_29 : (cmpValue (FP.dcmp (FP.dmul (Own.fitn v14 v8 v16 v10) (4683743612465315840 : UInt64)) (FP.l2d (v21 + v27))) .l) = (0 : Int32) := by exact (congrArg (fun o => cmpValue o .l) FL.2.2).trans rfl
      obtain ⟨fs, hr, hrun, hended, hW, hsame⟩ := X28.leave (v := some (.int (1 : Int32))) (fun h => by rw [Bd.returns] at h; cases h)
      refine ⟨_, _, ?_, hrun, hended, _, _, rfl, ?_, ⟨_, rfl⟩, hW, hsame.mono (by decide) (by decide)⟩
      · show Steps p.tables e below (T18.setTop (mkF m 153 #[.val (.int p0), .val (.int p1), .val (.int p2), .val (.long q3), .second, .val (.int v1), .val (.int v2), .val (.int v4), .val (.int v6), .val (.long v8), .second, .val (.long v10), .second, .val (.long v11), .second, .val (.long v12), .second, .val (.long v14), .second, .val (.long v16), .second, .val (.ref b17), .val (.long v21), .second, .unset, .unset, .unset, .unset] [])) _
        refine X18.ldc2Long hx hown (mvT hZ (hw _ (List.mem_of_getElem? (i := 27) rfl))) (g := (mkF m 153 #[.val (.int p0), .val (.int p1), .val (.int p2), .val (.long q3), .second, .val (.int v1), .val (.int v2), .val (.int v4), .val (.int v6), .val (.long v8), .second, .val (.long v10), .second, .val (.long v11), .second, .val (.long v12), .second, .val (.long v14), .second, .val (.long v16), .second, .val (.ref b17), .val (.long v21), .second, .unset, .unset, .unset, .unset] [])) rfl (hb hby at_153) _ ?_
        show Steps p.tables e below (T18.setTop (mkF m 156 #[.val (.int p0), .val (.int p1), .val (.int p2), .val (.long q3), .second, .val (.int v1), .val (.int v2), .val (.int v4), .val (.int v6), .val (.long v8), .second, .val (.long v10), .second, .val (.long v11), .second, .val (.long v12), .second, .val (.long v14), .second, .val (.long v16), .second, .val (.ref b17), .val (.long v21), .second, .unset, .unset, .unset, .unset] [(.long (65536 : Int64))])) _
        refine XS.goto X18.here hx rfl (pc0 := 156) (pc' := 172) rfl (hb hby at_156) (by decide) (by decide) ?_
        show Steps p.tables e below (T18.setTop (mkF m 172 #[.val (.int p0), .val (.int p1), .val (.int p2), .val (.long q3), .second, .val (.int v1), .val (.int v2), .val (.int v4), .val (.int v6), .val (.long v8), .second, .val (.long v10), .second, .val (.long v11), .second, .val (.long v12), .second, .val (.long v14), .second, .val (.long v16), .second, .val (.ref b17), .val (.long v21), .second, .unset, .unset, .unset, .unset] [(.long (65536 : Int64))])) _
        rw [← ev27]
        show Steps p.tables e below (T18.setTop (mkF m 172 #[.val (.int p0), .val (.int p1), .val (.int p2), .val (.long q3), .second, .val (.int v1), .val (.int v2), .val (.int v4), .val (.int v6), .val (.long v8), .second, .val (.long v10), .second, .val (.long v11), .second, .val (.long v12), .second, .val (.long v14), .second, .val (.long v16), .second, .val (.ref b17), .val (.long v21), .second, .unset, .unset, .unset, .unset] [(.long v27)])) _
        refine XS.lstore X18.here hx rfl (hb hby at_172) rfl (l' := #[.val (.int p0), .val (.int p1), .val (.int p2), .val (.long q3), .second, .val (.int v1), .val (.int v2), .val (.int v4), .val (.int v6), .val (.long v8), .second, .val (.long v10), .second, .val (.long v11), .second, .val (.long v12), .second, .val (.long v14), .second, .val (.long v16), .second, .val (.ref b17), .val (.long v21), .second, .val (.long v27), .second, .unset, .unset]) rfl ?_
        refine XS.aload X18.here hx rfl (hb hby at_174) rfl rfl ?_
        refine st28.trans ?_
        show Steps p.tables e below (T28.setTop (mkF m 179 #[.val (.int p0), .val (.int p1), .val (.int p2), .val (.long q3), .second, .val (.int v1), .val (.int v2), .val (.int v4), .val (.int v6), .val (.long v8), .second, .val (.long v10), .second, .val (.long v11), .second, .val (.long v12), .second, .val (.long v14), .second, .val (.long v16), .second, .val (.ref b17), .val (.long v21), .second, .val (.long v27), .second, .unset, .unset] [(.double (Own.fitn v14 v8 v16 v10))])) _
        refine XS.dstore X28.here hx rfl (hb hby at_179) rfl (l' := #[.val (.int p0), .val (.int p1), .val (.int p2), .val (.long q3), .second, .val (.int v1), .val (.int v2), .val (.int v4), .val (.int v6), .val (.long v8), .second, .val (.long v10), .second, .val (.long v11), .second, .val (.long v12), .second, .val (.long v14), .second, .val (.long v16), .second, .val (.ref b17), .val (.long v21), .second, .val (.long v27), .second, .val (.double (Own.fitn v14 v8 v16 v10)), .second]) rfl ?_
        refine XS.dload X28.here hx rfl (hb hby at_181) rfl ?_
        refine X28.ldc2DoubleC hx hown (mvT hZ (hw _ (List.mem_of_getElem? (i := 37) rfl))) (g := (mkF m 183 #[.val (.int p0), .val (.int p1), .val (.int p2), .val (.long q3), .second, .val (.int v1), .val (.int v2), .val (.int v4), .val (.int v6), .val (.long v8), .second, .val (.long v10), .second, .val (.long v11), .second, .val (.long v12), .second, .val (.long v14), .second, .val (.long v16), .second, .val (.ref b17), .val (.long v21), .second, .val (.long v27), .second, .val (.double (Own.fitn v14 v8 v16 v10)), .second] [(.double (Own.fitn v14 v8 v16 v10))])) rfl (hb hby at_183) _ ?_
        refine XS.dmulS X28.here hx rfl (hb hby at_186) rfl (own_nn FL.2.1) rfl ?_
        show Steps p.tables e below (T28.setTop (mkF m 187 #[.val (.int p0), .val (.int p1), .val (.int p2), .val (.long q3), .second, .val (.int v1), .val (.int v2), .val (.int v4), .val (.int v6), .val (.long v8), .second, .val (.long v10), .second, .val (.long v11), .second, .val (.long v12), .second, .val (.long v14), .second, .val (.long v16), .second, .val (.ref b17), .val (.long v21), .second, .val (.long v27), .second, .val (.double (Own.fitn v14 v8 v16 v10)), .second] [(.double (FP.dmul (Own.fitn v14 v8 v16 v10) (4683743612465315840 : UInt64)))])) _
        refine XS.lload X28.here hx rfl (hb hby at_187) rfl ?_
        refine XS.lload X28.here hx rfl (hb hby at_189) rfl ?_
        refine XS.ladd X28.here hx rfl (hb hby at_191) rfl ?_
        refine XS.l2dS X28.here hx rfl (hb hby at_192) rfl rfl ?_
        show Steps p.tables e below (T28.setTop (mkF m 193 #[.val (.int p0), .val (.int p1), .val (.int p2), .val (.long q3), .second, .val (.int v1), .val (.int v2), .val (.int v4), .val (.int v6), .val (.long v8), .second, .val (.long v10), .second, .val (.long v11), .second, .val (.long v12), .second, .val (.long v14), .second, .val (.long v16), .second, .val (.ref b17), .val (.long v21), .second, .val (.long v27), .second, .val (.double (Own.fitn v14 v8 v16 v10)), .second] [(.double (FP.l2d (v21 + v27))), (.double (FP.dmul (Own.fitn v14 v8 v16 v10) (4683743612465315840 : UInt64)))])) _
        refine XS.dcmpS X28.here hx rfl (hb hby at_193) rfl rfl ?_
        show Steps p.tables e below (T28.setTop (mkF m 194 #[.val (.int p0), .val (.int p1), .val (.int p2), .val (.long q3), .second, .val (.int v1), .val (.int v2), .val (.int v4), .val (.int v6), .val (.long v8), .second, .val (.long v10), .second, .val (.long v11), .second, .val (.long v12), .second, .val (.long v14), .second, .val (.long v16), .second, .val (.ref b17), .val (.long v21), .second, .val (.long v27), .second, .val (.double (Own.fitn v14 v8 v16 v10)), .second] [(.int (cmpValue (FP.dcmp (FP.dmul (Own.fitn v14 v8 v16 v10) (4683743612465315840 : UInt64)) (FP.l2d (v21 + v27))) .l))])) _
        refine XS.ifNo X28.here hx rfl (hb hby at_194) rfl ((if0 _ _).trans (teq hd194_29).2) ?_
        refine XS.iconst X28.here hx rfl (hb hby at_197) ?_
        show Steps p.tables e below (T28.setTop (mkF m 198 #[.val (.int p0), .val (.int p1), .val (.int p2), .val (.long q3), .second, .val (.int v1), .val (.int v2), .val (.int v4), .val (.int v6), .val (.long v8), .second, .val (.long v10), .second, .val (.long v11), .second, .val (.long v12), .second, .val (.long v14), .second, .val (.long v16), .second, .val (.ref b17), .val (.long v21), .second, .val (.long v27), .second, .val (.double (Own.fitn v14 v8 v16 v10)), .second] [(.int (1 : Int32))])) _
        refine XS.goto X28.here hx rfl (pc0 := 198) (pc' := 202) rfl (hb hby at_198) (by decide) (by decide) ?_
        show Steps p.tables e below (T28.setTop (mkF m 202 #[.val (.int p0), .val (.int p1), .val (.int p2), .val (.long q3), .second, .val (.int v1), .val (.int v2), .val (.int v4), .val (.int v6), .val (.long v8), .second, .val (.long v10), .second, .val (.long v11), .second, .val (.long v12), .second, .val (.long v14), .second, .val (.long v16), .second, .val (.ref b17), .val (.long v21), .second, .val (.long v27), .second, .val (.double (Own.fitn v14 v8 v16 v10)), .second] [(.int (1 : Int32))])) _
        exact retN X28 hx (t := .boolean) Bd.returns (by simp) (hb hby at_202) hr
      · show Q0 Z p0 p1 p2 q3  h0 n0 _ T28.heap _
        rw [e28]
        exact ⟨rfl, N28⟩
  · have K : ∀ target, Steps p.tables e below (T18.setTop (mkF m 127 #[.val (.int p0), .val (.int p1), .val (.int p2), .val (.long q3), .second, .val (.int v1), .val (.int v2), .val (.int v4), .val (.int v6), .val (.long v8), .second, .val (.long v10), .second, .val (.long v11), .second, .val (.long v12), .second, .val (.long v14), .second, .val (.long v16), .second, .val (.ref b17), .unset, .unset, .unset, .unset, .unset, .unset] [])) target → Steps p.tables e below (T18.setTop (mkF m 124 #[.val (.int p0), .val (.int p1), .val (.int p2), .val (.long q3), .second, .val (.int v1), .val (.int v2), .val (.int v4), .val (.int v6), .val (.long v8), .second, .val (.long v10), .second, .val (.long v11), .second, .val (.long v12), .second, .val (.long v14), .second, .val (.long v16), .second, .val (.ref b17), .unset, .unset, .unset, .unset, .unset, .unset] [(.int v4)])) target := by
      intro target kt
      refine XS.ifNo X18.here hx rfl (hb hby at_124) rfl ((if0 _ _).trans (feq hc124_20).1) ?_
      exact kt
    refine Done.of ?_ K
    obtain ⟨v30, ev30⟩ : ∃ z : Int64, z = (65536 : Int64) := ⟨_, rfl⟩
    have K31 : ∀ target, Steps p.tables e below (T18.setTop (mkF m 150 #[.val (.int p0), .val (.int p1), .val (.int p2), .val (.long q3), .second, .val (.int v1), .val (.int v2), .val (.int v4), .val (.int v6), .val (.long v8), .second, .val (.long v10), .second, .val (.long v11), .second, .val (.long v12), .second, .val (.long v14), .second, .val (.long v16), .second, .val (.ref b17), .val (.long v30), .second, .unset, .unset, .unset, .unset] [(.int v6)])) target → Steps p.tables e below (T18.setTop (mkF m 127 #[.val (.int p0), .val (.int p1), .val (.int p2), .val (.long q3), .second, .val (.int v1), .val (.int v2), .val (.int v4), .val (.int v6), .val (.long v8), .second, .val (.long v10), .second, .val (.long v11), .second, .val (.long v12), .second, .val (.long v14), .second, .val (.long v16), .second, .val (.ref b17), .unset, .unset, .unset, .unset, .unset, .unset] [])) target := by
      intro target kt
      refine X18.ldc2Long hx hown (mvT hZ (hw _ (List.mem_of_getElem? (i := 27) rfl))) (g := (mkF m 127 #[.val (.int p0), .val (.int p1), .val (.int p2), .val (.long q3), .second, .val (.int v1), .val (.int v2), .val (.int v4), .val (.int v6), .val (.long v8), .second, .val (.long v10), .second, .val (.long v11), .second, .val (.long v12), .second, .val (.long v14), .second, .val (.long v16), .second, .val (.ref b17), .unset, .unset, .unset, .unset, .unset, .unset] [])) rfl (hb hby at_127) _ ?_
      show Steps p.tables e below (T18.setTop (mkF m 130 #[.val (.int p0), .val (.int p1), .val (.int p2), .val (.long q3), .second, .val (.int v1), .val (.int v2), .val (.int v4), .val (.int v6), .val (.long v8), .second, .val (.long v10), .second, .val (.long v11), .second, .val (.long v12), .second, .val (.long v14), .second, .val (.long v16), .second, .val (.ref b17), .unset, .unset, .unset, .unset, .unset, .unset] [(.long (65536 : Int64))])) _
      refine XS.goto X18.here hx rfl (pc0 := 130) (pc' := 146) rfl (hb hby at_130) (by decide) (by decide) ?_
      show Steps p.tables e below (T18.setTop (mkF m 146 #[.val (.int p0), .val (.int p1), .val (.int p2), .val (.long q3), .second, .val (.int v1), .val (.int v2), .val (.int v4), .val (.int v6), .val (.long v8), .second, .val (.long v10), .second, .val (.long v11), .second, .val (.long v12), .second, .val (.long v14), .second, .val (.long v16), .second, .val (.ref b17), .unset, .unset, .unset, .unset, .unset, .unset] [(.long (65536 : Int64))])) _
      rw [← ev30]
      show Steps p.tables e below (T18.setTop (mkF m 146 #[.val (.int p0), .val (.int p1), .val (.int p2), .val (.long q3), .second, .val (.int v1), .val (.int v2), .val (.int v4), .val (.int v6), .val (.long v8), .second, .val (.long v10), .second, .val (.long v11), .second, .val (.long v12), .second, .val (.long v14), .second, .val (.long v16), .second, .val (.ref b17), .unset, .unset, .unset, .unset, .unset, .unset] [(.long v30)])) _
      refine XS.lstore X18.here hx rfl (hb hby at_146) rfl (l' := #[.val (.int p0), .val (.int p1), .val (.int p2), .val (.long q3), .second, .val (.int v1), .val (.int v2), .val (.int v4), .val (.int v6), .val (.long v8), .second, .val (.long v10), .second, .val (.long v11), .second, .val (.long v12), .second, .val (.long v14), .second, .val (.long v16), .second, .val (.ref b17), .val (.long v30), .second, .unset, .unset, .unset, .unset]) rfl ?_
      show Steps p.tables e below (T18.setTop (mkF m 148 #[.val (.int p0), .val (.int p1), .val (.int p2), .val (.long q3), .second, .val (.int v1), .val (.int v2), .val (.int v4), .val (.int v6), .val (.long v8), .second, .val (.long v10), .second, .val (.long v11), .second, .val (.long v12), .second, .val (.long v14), .second, .val (.long v16), .second, .val (.ref b17), .val (.long v30), .second, .unset, .unset, .unset, .unset] [])) _
      refine XS.iload X18.here hx rfl (hb hby at_148) rfl ?_
      exact kt
    refine Done.of ?_ K31
    by_cases hc150_32 : v6 = (0 : Int32)
    · have K : ∀ target, Steps p.tables e below (T18.setTop (mkF m 159 #[.val (.int p0), .val (.int p1), .val (.int p2), .val (.long q3), .second, .val (.int v1), .val (.int v2), .val (.int v4), .val (.int v6), .val (.long v8), .second, .val (.long v10), .second, .val (.long v11), .second, .val (.long v12), .second, .val (.long v14), .second, .val (.long v16), .second, .val (.ref b17), .val (.long v30), .second, .unset, .unset, .unset, .unset] [])) target → Steps p.tables e below (T18.setTop (mkF m 150 #[.val (.int p0), .val (.int p1), .val (.int p2), .val (.long q3), .second, .val (.int v1), .val (.int v2), .val (.int v4), .val (.int v6), .val (.long v8), .second, .val (.long v10), .second, .val (.long v11), .second, .val (.long v12), .second, .val (.long v14), .second, .val (.long v16), .second, .val (.ref b17), .val (.long v30), .second, .unset, .unset, .unset, .unset] [(.int v6)])) target := by
        intro target kt
        refine XS.ifYes X18.here hx rfl (pc0 := 150) (pc' := 159) rfl (hb hby at_150) rfl ((if0 _ _).trans (teq hc150_32).1) (by decide) (by decide) ?_
        exact kt
      refine Done.of ?_ K
      obtain ⟨v33, ev33⟩ : ∃ z : Int64, z = ((v10 - v16) * ((1 : Int64) <<< (((16 : Int32) - v2) &&& 0x3f).toInt64)) := ⟨_, rfl⟩
      have c01 : v8 = 0 := (HC.resolve_right (fun q => hc124_20 q.1)).2
      have S1 : Own.S 65536 v14 v8 := by rw [c01]; exact Own.s0 _
      have ne1 : v30.toInt = 65536 ∧ (65536 : Int).natAbs ≤ 2 ^ 49 := ⟨by rw [ev30]; decide, by decide⟩
      obtain ⟨k2, hk2, ha2, hc2⟩ := (HP.resolve_left (fun q => q.1 hc150_32)).2
      have S2 := Own.s1 hk2 hc2 MR.2.1.1 MR.2.1.2
      have ne2 := own_n hk2 ha2 hc2 MR.2.1 ev33
      have FL := Own.fin_law S1 S2 (Nat.le_trans ne1.2 (by decide)) (Nat.le_trans ne2.2 (by decide)) (own_ns ne1.1 ne2.1 ne1.2 ne2.2)
      obtain ⟨cq34, kq34, q34a, q34b, q34c⟩ := isOf hZ rfl EI18
      obtain ⟨_, _, ⟨T34, L34, k34, n34⟩, -, X34, ⟨Lc34, hQ34, l34, y34, z34⟩, st34⟩ := X18.virtualBack hx (y := (⟨"com/example/ensyn/ensyn/replay/TokenCounts", "fitness", "()D"⟩ : MethodName)) (z := (⟨"com/example/ensyn/ensyn/replay/TokenCounts", "fitness", "()D"⟩ : MethodName)) hown (mvT hZ (hw _ (List.mem_of_getElem? (i := 28) rfl))) (mvT hZ (hw _ (List.mem_of_getElem? (i := 29) rfl))) (notFace_of_selects (args := #[]) (mvT hZ (hw _ (List.mem_of_getElem? (i := 31) rfl)))) (mvT hZ (hw _ (List.mem_of_getElem? (i := 31) rfl))) (mvT hZ (hw _ (List.mem_of_getElem? (i := 30) rfl))) (by decide) (backOf (W := 0) (rm5 l Z a0 hw [] b17 v8 v10 v14 v16 _ _ T18.heap n0 Z18 EI18 F18_0 F18_1 F18_2 F18_3 S1 S2 FL.1) hZ (hw _ (List.mem_of_getElem? (i := 32) rfl)) (hw _ (List.mem_of_getElem? (i := 7) rfl)) (by decide) (by decide)) q34a q34c (g := (mkF m 176 #[.val (.int p0), .val (.int p1), .val (.int p2), .val (.long q3), .second, .val (.int v1), .val (.int v2), .val (.int v4), .val (.int v6), .val (.long v8), .second, .val (.long v10), .second, .val (.long v11), .second, .val (.long v12), .second, .val (.long v14), .second, .val (.long v16), .second, .val (.ref b17), .val (.long v30), .second, .val (.long v33), .second, .unset, .unset] [(.ref b17)])) rfl (by rw [hml]; rfl) (Steps.refl _) (argsL := []) (rest := []) (lenOf pd_4 rfl) rfl (by show 2 * 0 + _ ≤ _; exact Nat.le_of_eq rfl) (hb hby at_176) (fun _ _ => ⟨rfl, rfl, (by decide : 1 + 0 ≤ _), (by decide : 4 + 0 ≤ _)⟩)
      dsimp only [Pt.U, Pt.locs, Pt.cells, Pt.slots] at X34 l34 y34 z34 st34 hQ34
      rw [l34, y34, z34] at X34
      obtain ⟨rfl, N34q, e34⟩ := hQ34
      have N34 := Fr.app N18 N34q
      have hd194_35 : (cmpValue (FP.dcmp (FP.dmul (Own.fitn v14 v8 v16 v10) (4683743612465315840 : UInt64)) (FP.l2d (v30 + v33))) .l) = (0 : Int32) := by exact (congrArg (fun o => cmpValue o .l) FL.2.2).trans rfl
      obtain ⟨fs, hr, hrun, hended, hW, hsame⟩ := X34.leave (v := some (.int (1 : Int32))) (fun h => by rw [Bd.returns] at h; cases h)
      refine ⟨_, _, ?_, hrun, hended, _, _, rfl, ?_, ⟨_, rfl⟩, hW, hsame.mono (by decide) (by decide)⟩
      · refine XS.lload X18.here hx rfl (hb hby at_159) rfl ?_
        refine XS.lload X18.here hx rfl (hb hby at_161) rfl ?_
        refine XS.lsub X18.here hx rfl (hb hby at_163) rfl ?_
        show Steps p.tables e below (T18.setTop (mkF m 164 #[.val (.int p0), .val (.int p1), .val (.int p2), .val (.long q3), .second, .val (.int v1), .val (.int v2), .val (.int v4), .val (.int v6), .val (.long v8), .second, .val (.long v10), .second, .val (.long v11), .second, .val (.long v12), .second, .val (.long v14), .second, .val (.long v16), .second, .val (.ref b17), .val (.long v30), .second, .unset, .unset, .unset, .unset] [(.long (v10 - v16))])) _
        refine XS.lconst X18.here hx rfl (hb hby at_164) ?_
        refine XS.bipush X18.here hx rfl (hb hby at_165) ?_
        refine XS.iload X18.here hx rfl (hb hby at_167) rfl ?_
        refine XS.isub X18.here hx rfl (hb hby at_169) rfl ?_
        show Steps p.tables e below (T18.setTop (mkF m 170 #[.val (.int p0), .val (.int p1), .val (.int p2), .val (.long q3), .second, .val (.int v1), .val (.int v2), .val (.int v4), .val (.int v6), .val (.long v8), .second, .val (.long v10), .second, .val (.long v11), .second, .val (.long v12), .second, .val (.long v14), .second, .val (.long v16), .second, .val (.ref b17), .val (.long v30), .second, .unset, .unset, .unset, .unset] [(.int ((16 : Int32) - v2)), (.long (1 : Int64)), (.long (v10 - v16))])) _
        refine XS.lshl X18.here hx rfl (hb hby at_170) rfl ?_
        refine XS.lmul X18.here hx rfl (hb hby at_171) rfl ?_
        show Steps p.tables e below (T18.setTop (mkF m 172 #[.val (.int p0), .val (.int p1), .val (.int p2), .val (.long q3), .second, .val (.int v1), .val (.int v2), .val (.int v4), .val (.int v6), .val (.long v8), .second, .val (.long v10), .second, .val (.long v11), .second, .val (.long v12), .second, .val (.long v14), .second, .val (.long v16), .second, .val (.ref b17), .val (.long v30), .second, .unset, .unset, .unset, .unset] [(.long ((v10 - v16) * ((1 : Int64) <<< (((16 : Int32) - v2) &&& 0x3f).toInt64)))])) _
        rw [← ev33]
        show Steps p.tables e below (T18.setTop (mkF m 172 #[.val (.int p0), .val (.int p1), .val (.int p2), .val (.long q3), .second, .val (.int v1), .val (.int v2), .val (.int v4), .val (.int v6), .val (.long v8), .second, .val (.long v10), .second, .val (.long v11), .second, .val (.long v12), .second, .val (.long v14), .second, .val (.long v16), .second, .val (.ref b17), .val (.long v30), .second, .unset, .unset, .unset, .unset] [(.long v33)])) _
        refine XS.lstore X18.here hx rfl (hb hby at_172) rfl (l' := #[.val (.int p0), .val (.int p1), .val (.int p2), .val (.long q3), .second, .val (.int v1), .val (.int v2), .val (.int v4), .val (.int v6), .val (.long v8), .second, .val (.long v10), .second, .val (.long v11), .second, .val (.long v12), .second, .val (.long v14), .second, .val (.long v16), .second, .val (.ref b17), .val (.long v30), .second, .val (.long v33), .second, .unset, .unset]) rfl ?_
        refine XS.aload X18.here hx rfl (hb hby at_174) rfl rfl ?_
        show Steps p.tables e below (T18.setTop (mkF m 176 #[.val (.int p0), .val (.int p1), .val (.int p2), .val (.long q3), .second, .val (.int v1), .val (.int v2), .val (.int v4), .val (.int v6), .val (.long v8), .second, .val (.long v10), .second, .val (.long v11), .second, .val (.long v12), .second, .val (.long v14), .second, .val (.long v16), .second, .val (.ref b17), .val (.long v30), .second, .val (.long v33), .second, .unset, .unset] [(.ref b17)])) _
        refine st34.trans ?_
        refine XS.dstore X34.here hx rfl (hb hby at_179) rfl (l' := #[.val (.int p0), .val (.int p1), .val (.int p2), .val (.long q3), .second, .val (.int v1), .val (.int v2), .val (.int v4), .val (.int v6), .val (.long v8), .second, .val (.long v10), .second, .val (.long v11), .second, .val (.long v12), .second, .val (.long v14), .second, .val (.long v16), .second, .val (.ref b17), .val (.long v30), .second, .val (.long v33), .second, .val (.double (Own.fitn v14 v8 v16 v10)), .second]) rfl ?_
        refine XS.dload X34.here hx rfl (hb hby at_181) rfl ?_
        refine X34.ldc2DoubleC hx hown (mvT hZ (hw _ (List.mem_of_getElem? (i := 37) rfl))) (g := (mkF m 183 #[.val (.int p0), .val (.int p1), .val (.int p2), .val (.long q3), .second, .val (.int v1), .val (.int v2), .val (.int v4), .val (.int v6), .val (.long v8), .second, .val (.long v10), .second, .val (.long v11), .second, .val (.long v12), .second, .val (.long v14), .second, .val (.long v16), .second, .val (.ref b17), .val (.long v30), .second, .val (.long v33), .second, .val (.double (Own.fitn v14 v8 v16 v10)), .second] [(.double (Own.fitn v14 v8 v16 v10))])) rfl (hb hby at_183) _ ?_
        show Steps p.tables e below (T34.setTop (mkF m 186 #[.val (.int p0), .val (.int p1), .val (.int p2), .val (.long q3), .second, .val (.int v1), .val (.int v2), .val (.int v4), .val (.int v6), .val (.long v8), .second, .val (.long v10), .second, .val (.long v11), .second, .val (.long v12), .second, .val (.long v14), .second, .val (.long v16), .second, .val (.ref b17), .val (.long v30), .second, .val (.long v33), .second, .val (.double (Own.fitn v14 v8 v16 v10)), .second] [(.double (4683743612465315840 : UInt64)), (.double (Own.fitn v14 v8 v16 v10))])) _
        refine XS.dmulS X34.here hx rfl (hb hby at_186) rfl (own_nn FL.2.1) rfl ?_
        refine XS.lload X34.here hx rfl (hb hby at_187) rfl ?_
        refine XS.lload X34.here hx rfl (hb hby at_189) rfl ?_
        refine XS.ladd X34.here hx rfl (hb hby at_191) rfl ?_
        show Steps p.tables e below (T34.setTop (mkF m 192 #[.val (.int p0), .val (.int p1), .val (.int p2), .val (.long q3), .second, .val (.int v1), .val (.int v2), .val (.int v4), .val (.int v6), .val (.long v8), .second, .val (.long v10), .second, .val (.long v11), .second, .val (.long v12), .second, .val (.long v14), .second, .val (.long v16), .second, .val (.ref b17), .val (.long v30), .second, .val (.long v33), .second, .val (.double (Own.fitn v14 v8 v16 v10)), .second] [(.long (v30 + v33)), (.double (FP.dmul (Own.fitn v14 v8 v16 v10) (4683743612465315840 : UInt64)))])) _
        refine XS.l2dS X34.here hx rfl (hb hby at_192) rfl rfl ?_
        refine XS.dcmpS X34.here hx rfl (hb hby at_193) rfl rfl ?_
        show Steps p.tables e below (T34.setTop (mkF m 194 #[.val (.int p0), .val (.int p1), .val (.int p2), .val (.long q3), .second, .val (.int v1), .val (.int v2), .val (.int v4), .val (.int v6), .val (.long v8), .second, .val (.long v10), .second, .val (.long v11), .second, .val (.long v12), .second, .val (.long v14), .second, .val (.long v16), .second, .val (.ref b17), .val (.long v30), .second, .val (.long v33), .second, .val (.double (Own.fitn v14 v8 v16 v10)), .second] [(.int (cmpValue (FP.dcmp (FP.dmul (Own.fitn v14 v8 v16 v10) (4683743612465315840 : UInt64)) (FP.l2d (v30 + v33))) .l))])) _
        refine XS.ifNo X34.here hx rfl (hb hby at_194) rfl ((if0 _ _).trans (teq hd194_35).2) ?_
        refine XS.iconst X34.here hx rfl (hb hby at_197) ?_
        show Steps p.tables e below (T34.setTop (mkF m 198 #[.val (.int p0), .val (.int p1), .val (.int p2), .val (.long q3), .second, .val (.int v1), .val (.int v2), .val (.int v4), .val (.int v6), .val (.long v8), .second, .val (.long v10), .second, .val (.long v11), .second, .val (.long v12), .second, .val (.long v14), .second, .val (.long v16), .second, .val (.ref b17), .val (.long v30), .second, .val (.long v33), .second, .val (.double (Own.fitn v14 v8 v16 v10)), .second] [(.int (1 : Int32))])) _
        refine XS.goto X34.here hx rfl (pc0 := 198) (pc' := 202) rfl (hb hby at_198) (by decide) (by decide) ?_
        show Steps p.tables e below (T34.setTop (mkF m 202 #[.val (.int p0), .val (.int p1), .val (.int p2), .val (.long q3), .second, .val (.int v1), .val (.int v2), .val (.int v4), .val (.int v6), .val (.long v8), .second, .val (.long v10), .second, .val (.long v11), .second, .val (.long v12), .second, .val (.long v14), .second, .val (.long v16), .second, .val (.ref b17), .val (.long v30), .second, .val (.long v33), .second, .val (.double (Own.fitn v14 v8 v16 v10)), .second] [(.int (1 : Int32))])) _
        exact retN X34 hx (t := .boolean) Bd.returns (by simp) (hb hby at_202) hr
      · show Q0 Z p0 p1 p2 q3  h0 n0 _ T34.heap _
        rw [e34]
        exact ⟨rfl, N34⟩
    · have K : ∀ target, Steps p.tables e below (T18.setTop (mkF m 153 #[.val (.int p0), .val (.int p1), .val (.int p2), .val (.long q3), .second, .val (.int v1), .val (.int v2), .val (.int v4), .val (.int v6), .val (.long v8), .second, .val (.long v10), .second, .val (.long v11), .second, .val (.long v12), .second, .val (.long v14), .second, .val (.long v16), .second, .val (.ref b17), .val (.long v30), .second, .unset, .unset, .unset, .unset] [])) target → Steps p.tables e below (T18.setTop (mkF m 150 #[.val (.int p0), .val (.int p1), .val (.int p2), .val (.long q3), .second, .val (.int v1), .val (.int v2), .val (.int v4), .val (.int v6), .val (.long v8), .second, .val (.long v10), .second, .val (.long v11), .second, .val (.long v12), .second, .val (.long v14), .second, .val (.long v16), .second, .val (.ref b17), .val (.long v30), .second, .unset, .unset, .unset, .unset] [(.int v6)])) target := by
        intro target kt
        refine XS.ifNo X18.here hx rfl (hb hby at_150) rfl ((if0 _ _).trans (feq hc150_32).1) ?_
        exact kt
      refine Done.of ?_ K
      obtain ⟨v36, ev36⟩ : ∃ z : Int64, z = (65536 : Int64) := ⟨_, rfl⟩
      have c01 : v8 = 0 := (HC.resolve_right (fun q => hc124_20 q.1)).2
      have S1 : Own.S 65536 v14 v8 := by rw [c01]; exact Own.s0 _
      have ne1 : v30.toInt = 65536 ∧ (65536 : Int).natAbs ≤ 2 ^ 49 := ⟨by rw [ev30]; decide, by decide⟩
      have c02 : v10 = 0 := (HP.resolve_right (fun q => hc150_32 q.1)).2
      have S2 : Own.S 65536 v16 v10 := by rw [c02]; exact Own.s0 _
      have ne2 : v36.toInt = 65536 ∧ (65536 : Int).natAbs ≤ 2 ^ 49 := ⟨by rw [ev36]; decide, by decide⟩
      have FL := Own.fin_law S1 S2 (Nat.le_trans ne1.2 (by decide)) (Nat.le_trans ne2.2 (by decide)) (own_ns ne1.1 ne2.1 ne1.2 ne2.2)
      obtain ⟨cq37, kq37, q37a, q37b, q37c⟩ := isOf hZ rfl EI18
      obtain ⟨_, _, ⟨T37, L37, k37, n37⟩, -, X37, ⟨Lc37, hQ37, l37, y37, z37⟩, st37⟩ := X18.virtualBack hx (y := (⟨"com/example/ensyn/ensyn/replay/TokenCounts", "fitness", "()D"⟩ : MethodName)) (z := (⟨"com/example/ensyn/ensyn/replay/TokenCounts", "fitness", "()D"⟩ : MethodName)) hown (mvT hZ (hw _ (List.mem_of_getElem? (i := 28) rfl))) (mvT hZ (hw _ (List.mem_of_getElem? (i := 29) rfl))) (notFace_of_selects (args := #[]) (mvT hZ (hw _ (List.mem_of_getElem? (i := 31) rfl)))) (mvT hZ (hw _ (List.mem_of_getElem? (i := 31) rfl))) (mvT hZ (hw _ (List.mem_of_getElem? (i := 30) rfl))) (by decide) (backOf (W := 0) (rm5 l Z a0 hw [] b17 v8 v10 v14 v16 _ _ T18.heap n0 Z18 EI18 F18_0 F18_1 F18_2 F18_3 S1 S2 FL.1) hZ (hw _ (List.mem_of_getElem? (i := 32) rfl)) (hw _ (List.mem_of_getElem? (i := 7) rfl)) (by decide) (by decide)) q37a q37c (g := (mkF m 176 #[.val (.int p0), .val (.int p1), .val (.int p2), .val (.long q3), .second, .val (.int v1), .val (.int v2), .val (.int v4), .val (.int v6), .val (.long v8), .second, .val (.long v10), .second, .val (.long v11), .second, .val (.long v12), .second, .val (.long v14), .second, .val (.long v16), .second, .val (.ref b17), .val (.long v30), .second, .val (.long v36), .second, .unset, .unset] [(.ref b17)])) rfl (by rw [hml]; rfl) (Steps.refl _) (argsL := []) (rest := []) (lenOf pd_4 rfl) rfl (by show 2 * 0 + _ ≤ _; exact Nat.le_of_eq rfl) (hb hby at_176) (fun _ _ => ⟨rfl, rfl, (by decide : 1 + 0 ≤ _), (by decide : 4 + 0 ≤ _)⟩)
      dsimp only [Pt.U, Pt.locs, Pt.cells, Pt.slots] at X37 l37 y37 z37 st37 hQ37
      rw [l37, y37, z37] at X37
      obtain ⟨rfl, N37q, e37⟩ := hQ37
      have N37 := Fr.app N18 N37q
      have hd194_38 : (cmpValue (FP.dcmp (FP.dmul (Own.fitn v14 v8 v16 v10) (4683743612465315840 : UInt64)) (FP.l2d (v30 + v36))) .l) = (0 : Int32) := by exact (congrArg (fun o => cmpValue o .l) FL.2.2).trans rfl
      obtain ⟨fs, hr, hrun, hended, hW, hsame⟩ := X37.leave (v := some (.int (1 : Int32))) (fun h => by rw [Bd.returns] at h; cases h)
      refine ⟨_, _, ?_, hrun, hended, _, _, rfl, ?_, ⟨_, rfl⟩, hW, hsame.mono (by decide) (by decide)⟩
      · refine X18.ldc2Long hx hown (mvT hZ (hw _ (List.mem_of_getElem? (i := 27) rfl))) (g := (mkF m 153 #[.val (.int p0), .val (.int p1), .val (.int p2), .val (.long q3), .second, .val (.int v1), .val (.int v2), .val (.int v4), .val (.int v6), .val (.long v8), .second, .val (.long v10), .second, .val (.long v11), .second, .val (.long v12), .second, .val (.long v14), .second, .val (.long v16), .second, .val (.ref b17), .val (.long v30), .second, .unset, .unset, .unset, .unset] [])) rfl (hb hby at_153) _ ?_
        show Steps p.tables e below (T18.setTop (mkF m 156 #[.val (.int p0), .val (.int p1), .val (.int p2), .val (.long q3), .second, .val (.int v1), .val (.int v2), .val (.int v4), .val (.int v6), .val (.long v8), .second, .val (.long v10), .second, .val (.long v11), .second, .val (.long v12), .second, .val (.long v14), .second, .val (.long v16), .second, .val (.ref b17), .val (.long v30), .second, .unset, .unset, .unset, .unset] [(.long (65536 : Int64))])) _
        refine XS.goto X18.here hx rfl (pc0 := 156) (pc' := 172) rfl (hb hby at_156) (by decide) (by decide) ?_
        show Steps p.tables e below (T18.setTop (mkF m 172 #[.val (.int p0), .val (.int p1), .val (.int p2), .val (.long q3), .second, .val (.int v1), .val (.int v2), .val (.int v4), .val (.int v6), .val (.long v8), .second, .val (.long v10), .second, .val (.long v11), .second, .val (.long v12), .second, .val (.long v14), .second, .val (.long v16), .second, .val (.ref b17), .val (.long v30), .second, .unset, .unset, .unset, .unset] [(.long (65536 : Int64))])) _
        rw [← ev36]
        show Steps p.tables e below (T18.setTop (mkF m 172 #[.val (.int p0), .val (.int p1), .val (.int p2), .val (.long q3), .second, .val (.int v1), .val (.int v2), .val (.int v4), .val (.int v6), .val (.long v8), .second, .val (.long v10), .second, .val (.long v11), .second, .val (.long v12), .second, .val (.long v14), .second, .val (.long v16), .second, .val (.ref b17), .val (.long v30), .second, .unset, .unset, .unset, .unset] [(.long v36)])) _
        refine XS.lstore X18.here hx rfl (hb hby at_172) rfl (l' := #[.val (.int p0), .val (.int p1), .val (.int p2), .val (.long q3), .second, .val (.int v1), .val (.int v2), .val (.int v4), .val (.int v6), .val (.long v8), .second, .val (.long v10), .second, .val (.long v11), .second, .val (.long v12), .second, .val (.long v14), .second, .val (.long v16), .second, .val (.ref b17), .val (.long v30), .second, .val (.long v36), .second, .unset, .unset]) rfl ?_
        refine XS.aload X18.here hx rfl (hb hby at_174) rfl rfl ?_
        refine st37.trans ?_
        refine XS.dstore X37.here hx rfl (hb hby at_179) rfl (l' := #[.val (.int p0), .val (.int p1), .val (.int p2), .val (.long q3), .second, .val (.int v1), .val (.int v2), .val (.int v4), .val (.int v6), .val (.long v8), .second, .val (.long v10), .second, .val (.long v11), .second, .val (.long v12), .second, .val (.long v14), .second, .val (.long v16), .second, .val (.ref b17), .val (.long v30), .second, .val (.long v36), .second, .val (.double (Own.fitn v14 v8 v16 v10)), .second]) rfl ?_
        show Steps p.tables e below (T37.setTop (mkF m 181 #[.val (.int p0), .val (.int p1), .val (.int p2), .val (.long q3), .second, .val (.int v1), .val (.int v2), .val (.int v4), .val (.int v6), .val (.long v8), .second, .val (.long v10), .second, .val (.long v11), .second, .val (.long v12), .second, .val (.long v14), .second, .val (.long v16), .second, .val (.ref b17), .val (.long v30), .second, .val (.long v36), .second, .val (.double (Own.fitn v14 v8 v16 v10)), .second] [])) _
        refine XS.dload X37.here hx rfl (hb hby at_181) rfl ?_
        refine X37.ldc2DoubleC hx hown (mvT hZ (hw _ (List.mem_of_getElem? (i := 37) rfl))) (g := (mkF m 183 #[.val (.int p0), .val (.int p1), .val (.int p2), .val (.long q3), .second, .val (.int v1), .val (.int v2), .val (.int v4), .val (.int v6), .val (.long v8), .second, .val (.long v10), .second, .val (.long v11), .second, .val (.long v12), .second, .val (.long v14), .second, .val (.long v16), .second, .val (.ref b17), .val (.long v30), .second, .val (.long v36), .second, .val (.double (Own.fitn v14 v8 v16 v10)), .second] [(.double (Own.fitn v14 v8 v16 v10))])) rfl (hb hby at_183) _ ?_
        refine XS.dmulS X37.here hx rfl (hb hby at_186) rfl (own_nn FL.2.1) rfl ?_
        refine XS.lload X37.here hx rfl (hb hby at_187) rfl ?_
        show Steps p.tables e below (T37.setTop (mkF m 189 #[.val (.int p0), .val (.int p1), .val (.int p2), .val (.long q3), .second, .val (.int v1), .val (.int v2), .val (.int v4), .val (.int v6), .val (.long v8), .second, .val (.long v10), .second, .val (.long v11), .second, .val (.long v12), .second, .val (.long v14), .second, .val (.long v16), .second, .val (.ref b17), .val (.long v30), .second, .val (.long v36), .second, .val (.double (Own.fitn v14 v8 v16 v10)), .second] [(.long v30), (.double (FP.dmul (Own.fitn v14 v8 v16 v10) (4683743612465315840 : UInt64)))])) _
        refine XS.lload X37.here hx rfl (hb hby at_189) rfl ?_
        refine XS.ladd X37.here hx rfl (hb hby at_191) rfl ?_
        refine XS.l2dS X37.here hx rfl (hb hby at_192) rfl rfl ?_
        refine XS.dcmpS X37.here hx rfl (hb hby at_193) rfl rfl ?_
        show Steps p.tables e below (T37.setTop (mkF m 194 #[.val (.int p0), .val (.int p1), .val (.int p2), .val (.long q3), .second, .val (.int v1), .val (.int v2), .val (.int v4), .val (.int v6), .val (.long v8), .second, .val (.long v10), .second, .val (.long v11), .second, .val (.long v12), .second, .val (.long v14), .second, .val (.long v16), .second, .val (.ref b17), .val (.long v30), .second, .val (.long v36), .second, .val (.double (Own.fitn v14 v8 v16 v10)), .second] [(.int (cmpValue (FP.dcmp (FP.dmul (Own.fitn v14 v8 v16 v10) (4683743612465315840 : UInt64)) (FP.l2d (v30 + v36))) .l))])) _
        refine XS.ifNo X37.here hx rfl (hb hby at_194) rfl ((if0 _ _).trans (teq hd194_38).2) ?_
        show Steps p.tables e below (T37.setTop (mkF m 197 #[.val (.int p0), .val (.int p1), .val (.int p2), .val (.long q3), .second, .val (.int v1), .val (.int v2), .val (.int v4), .val (.int v6), .val (.long v8), .second, .val (.long v10), .second, .val (.long v11), .second, .val (.long v12), .second, .val (.long v14), .second, .val (.long v16), .second, .val (.ref b17), .val (.long v30), .second, .val (.long v36), .second, .val (.double (Own.fitn v14 v8 v16 v10)), .second] [])) _
        refine XS.iconst X37.here hx rfl (hb hby at_197) ?_
        show Steps p.tables e below (T37.setTop (mkF m 198 #[.val (.int p0), .val (.int p1), .val (.int p2), .val (.long q3), .second, .val (.int v1), .val (.int v2), .val (.int v4), .val (.int v6), .val (.long v8), .second, .val (.long v10), .second, .val (.long v11), .second, .val (.long v12), .second, .val (.long v14), .second, .val (.long v16), .second, .val (.ref b17), .val (.long v30), .second, .val (.long v36), .second, .val (.double (Own.fitn v14 v8 v16 v10)), .second] [(.int (1 : Int32))])) _
        refine XS.goto X37.here hx rfl (pc0 := 198) (pc' := 202) rfl (hb hby at_198) (by decide) (by decide) ?_
        show Steps p.tables e below (T37.setTop (mkF m 202 #[.val (.int p0), .val (.int p1), .val (.int p2), .val (.long q3), .second, .val (.int v1), .val (.int v2), .val (.int v4), .val (.int v6), .val (.long v8), .second, .val (.long v10), .second, .val (.long v11), .second, .val (.long v12), .second, .val (.long v14), .second, .val (.long v16), .second, .val (.ref b17), .val (.long v30), .second, .val (.long v36), .second, .val (.double (Own.fitn v14 v8 v16 v10)), .second] [(.int (1 : Int32))])) _
        exact retN X37 hx (t := .boolean) Bd.returns (by simp) (hb hby at_202) hr
      · show Q0 Z p0 p1 p2 q3  h0 n0 _ T37.heap _
        rw [e37]
        exact ⟨rfl, N37⟩
set_option maxRecDepth 65536 in
set_option maxHeartbeats 40000000 in
theorem comes_1 {Post : Tables → Env → Array Value → State → Outcome → State → Prop} (hpost : ∀ tb e args s v u, (limb_1_1.after args s (.returned v) u = true ∧ limb_1_2.after args s (.returned v) u = true ∧ True) → FrameEnd s (.returned v) u (Jvm.fieldLocs frame_1_writes args s ++ Jvm.arrayLocs frame_1_arrays args s ++ Jvm.staticLocs frame_1_statics s) 16 128 → Post tb e args s (.returned v) u) :
    ArmFor flags0 classFile x code maxLocals ret World_1 tables_1 room_1 Calls_1 rest_1 Pre_1 Post := by
  intro l hfl _ _ p e ha hc hk s m args below hf hA hF happ hP
  obtain ⟨hcalls, hrest, hpre⟩ := hP
  obtain ⟨-, -, -, hnamed, -, -, -, hat⟩ := (Spec.applies_iff hf).mp happ
  obtain ⟨hg, hn⟩ := and_e (Cond.before_iff.mp (show (Jvm.Cond.and given_1 narrow_1).before args s = true from hpre))
  obtain ⟨g1, g2⟩ := and_e hg
  obtain ⟨g3, g4⟩ := and_e g2
  obtain ⟨g5, g6⟩ := and_e g4
  obtain ⟨g7, g8⟩ := and_e g6
  obtain ⟨w0, w1, w2, w3, rfl⟩ : ∃ w0 w1 w2 w3 : Value, args = #[w0, w1, w2, w3] := by
    have hs : args.size = 4 := by simpa [Cond.value, given_1] using g1
    obtain ⟨L⟩ := args
    match L, hs with
    | [w0, w1, w2, w3], _ => exact ⟨w0, w1, w2, w3, rfl⟩
  have hw := fun d (hd : d ∈ tables_1) => atoms_spec (ws := Jvm.Cond.code x code maxLocals ret :: tables_1) hat d (List.mem_cons_of_mem _ hd)
  have hfit : Fit s := fun {y c} hc i hi => by
    obtain ⟨ha, rfl⟩ := Array.getElem?_eq_some_iff.mp hc
    have q := List.all_eq_true.mp ((Array.all_eq_true_iff_forall_mem.mp hF) _ (Array.getElem_mem ha)) i (List.mem_range.mpr hi)
    simpa [Array.getElem?_eq_getElem hi] using q
  obtain ⟨i0, ei0⟩ := is_v g3
  obtain rfl : w0 = (.int i0) := Option.some.inj ei0
  obtain ⟨i1, ei1⟩ := is_v g5
  obtain rfl : w1 = (.int i1) := Option.some.inj ei1
  obtain ⟨i2, ei2⟩ := is_v g7
  obtain rfl : w2 = (.int i2) := Option.some.inj ei2
  obtain ⟨i3, ei3⟩ := isL_v g8
  obtain rfl : w3 = (.long i3) := Option.some.inj ei3
  obtain ⟨n, o, h1, h2, h3, _, L, rfl, ⟨rfl, N⟩, hq⟩ := rm0 l s _ hw tables_1 i0 i1 i2 i3  s.heap s.heap.size (Nat.le_refl _)  p e ha hc hk s m _ below hf ((Spec.applies_iff_loose hf).mp happ).1 ⟨rfl, State.Warmed39.refl s, rfl⟩ trivial
  refine ⟨n, _, h1, h2, h3, hpost _ _ _ _ _ _ ⟨Cond.after_iff.mpr rfl, Cond.after_iff.mpr (eq_i res_at (Term.int_eval (1)) rfl), trivial⟩ ⟨hq.1, hq.2.1, (hq.2.2.sift fun y hy => Or.inr (N y hy)).mono (by decide) (by decide)⟩⟩
theorem main_1_1 : Claimed_1_1 := comes_1 fun _ _ _ _ _ _ h hF => ⟨h.1, hF⟩
theorem main_1_2 : Claimed_1_2 := comes_1 fun _ _ _ _ _ _ h hF => ⟨h.2.1, hF⟩
end Jvm.Pilot.@@N@@
namespace Jvm.Pilot.@@N@@
open Jvm Jvm.ClassFile Sem Op Lib Jvm.Free Jvm.Stand Jvm.Pilot.@@N@@.Jvm.D
/-! MADE BY PROGRAM (witnessworld.py) out of the Statement's table words and the real class files: 11 classes; the members and pool entries that the words name. The judged class is class 1, her method 1. -/
namespace start1
open Jvm.ClassFile
def u (s : String) : CpInfo := .utf8 (stringToUtf16 s)
/-- a pool by its gaps: so many unusable entries, then the entry; so many at the end -/
def gap : Nat → List CpInfo → List CpInfo
  | 0, r => r
  | n + 1, r => .unusable :: gap n r
def poolList (es : List (Nat × CpInfo)) (last : Nat) : List CpInfo := es.foldr (fun e r => gap e.1 (e.2 :: r)) (gap last [])
def pool (es : List (Nat × CpInfo)) (last : Nat) : Array CpInfo := ⟨poolList es last⟩
def fileOf (pool : Array CpInfo) (this : Nat) (attrs : Array Attribute := #[]) (ms : Array MethodInfo := #[]) (fl : Nat := 33) (sup : Nat := 0) (ifs : Array Nat := #[]) (fds : Array FieldInfo := #[]) : ClassFile where
  minorVersion := 0
  majorVersion := 65
  constantPool := pool
  accessFlags := fl
  thisClass := this
  superClass := sup
  interfaces := ifs
  fields := fds
  methods := ms
  attributes := attrs
def plain (name : String) (sup : Option ClassId) : Class where
  name := name
  kind := .ordinary
  loader := none
  accessFlags := 33
  super := sup
  interfaces := #[]
  cf := none
  fields := #[]
  methods := #[]
  instanceTypes := #[]
  staticTypes := #[]
  resolved := #[]
  callSites := []
  init := .initialized
  statics := none
  mirror := none

def pool0 : Array CpInfo := pool [(5, u "<init>"), (0, u "()V"), (1, .class_ 10), (1, u "java/lang/Object")] 113

def k0c0 : Code := { maxStack := 0, maxLocals := 1, code := object_method_1_code, exceptionTable := #[], attributes := #[] }
def k0m0 : Method := { name := "<init>", desc := "()V", sig := { parameters := [], returnType := none }, accessFlags := 1, code := some k0c0 }
/-- java/lang/Object -/
def k0 : Class := { plain "java/lang/Object" none with
  accessFlags := 33
  interfaces := #[]
  cf := some (fileOf pool0 8 #[] #[{ accessFlags := 1, nameIndex := 5, descriptorIndex := 6, attributes := #[] }] 33 0 #[] #[])
  fields := #[]
  methods := #[k0m0]
  instanceTypes := #[]
  staticTypes := #[]
  resolved := Array.replicate 124 none
  statics := none }

def pool1 : Array CpInfo := pool [(2, .class_ 4), (1, u "java/lang/Object"), (0, u "<init>"), (0, u "()V"), (0, .long 1073741823), (1, .methodref 10 11), (0, .class_ 12), (0, .nameAndType 13 14), (0, u "java/lang/Math"), (0, u "max"), (0, u "(JJ)J"), (0, .class_ 16), (0, u "com/example/ensyn/ensyn/replay/TokenCounts"), (0, .methodref 15 18), (0, .nameAndType 5 19), (0, u "(JJJJ)V"), (0, .long 65536), (1, .methodref 15 23), (0, .nameAndType 24 25), (0, u "fitness"), (0, u "()D"), (0, .double 4683743612465315840), (1, .class_ 29), (0, u "com/example/ensyn/ensyn/replay/TokenCountsFitnessPinLaw"), (2, u "law"), (0, u "(IIIJ)Z")] 3

def k1m0 : Method := { name := "<init>", desc := "()V", sig := { parameters := [], returnType := none }, accessFlags := 1, code := none }
def k1c1 : Code := { maxStack := 10, maxLocals := 28, code := code, exceptionTable := #[], attributes := #[] }
def k1m1 : Method := { name := "law", desc := "(IIIJ)Z", sig := { parameters := [.int, .int, .int, .long], returnType := some .boolean }, accessFlags := 9, code := some k1c1 }
/-- com/example/ensyn/ensyn/replay/TokenCountsFitnessPinLaw -/
def k1 : Class := { plain "com/example/ensyn/ensyn/replay/TokenCountsFitnessPinLaw" (some 0) with
  accessFlags := 49
  interfaces := #[]
  cf := some (fileOf pool1 28 #[] #[{ accessFlags := 1, nameIndex := 5, descriptorIndex := 6, attributes := #[] }, { accessFlags := 9, nameIndex := 32, descriptorIndex := 33, attributes := #[] }] 49 2 #[] #[])
  fields := #[]
  methods := #[k1m0, k1m1]
  instanceTypes := #[]
  staticTypes := #[]
  resolved := Array.replicate 37 none
  statics := none }

def pool2 : Array CpInfo := pool [(1, .class_ 2), (0, u "java/lang/Math"), (1, .class_ 6), (1, u "java/lang/Object"), (0, u "<init>"), (0, u "()V"), (89, .class_ 100), (1, u "java/lang/Math$RandomNumberGeneratorHolder"), (20, u "(JJ)J"), (50, u "negativeZeroFloatBits"), (0, u "J"), (2, u "negativeZeroDoubleBits"), (21, u "max"), (46, u "$assertionsDisabled"), (0, u "Z"), (91, u "twoToTheDoubleScaleDown"), (0, u "D"), (4, u "twoToTheDoubleScaleUp"), (9, u "E"), (3, u "PI"), (2, u "TAU"), (2, u "DEGREES_TO_RADIANS"), (0, u "RADIANS_TO_DEGREES")] 94

def k2m0 : Method := { name := "<init>", desc := "()V", sig := { parameters := [], returnType := none }, accessFlags := 2, code := none }
def k2c1 : Code := { maxStack := 4, maxLocals := 4, code := jdk_29_method_66_code, exceptionTable := #[], attributes := #[] }
def k2m1 : Method := { name := "max", desc := "(JJ)J", sig := { parameters := [.long, .long], returnType := some .long }, accessFlags := 9, code := some k2c1 }
/-- java/lang/Math -/
def k2 : Class := { plain "java/lang/Math" (some 0) with
  accessFlags := 49
  interfaces := #[]
  cf := some (fileOf pool2 1 #[.nestMembers #[98]] #[{ accessFlags := 2, nameIndex := 7, descriptorIndex := 8, attributes := #[] }, { accessFlags := 9, nameIndex := 198, descriptorIndex := 121, attributes := #[] }] 49 4 #[] #[{ accessFlags := 25, nameIndex := 354, descriptorIndex := 339, attributes := #[] }, { accessFlags := 25, nameIndex := 358, descriptorIndex := 339, attributes := #[] }, { accessFlags := 25, nameIndex := 361, descriptorIndex := 339, attributes := #[] }, { accessFlags := 26, nameIndex := 364, descriptorIndex := 339, attributes := #[] }, { accessFlags := 26, nameIndex := 365, descriptorIndex := 339, attributes := #[] }, { accessFlags := 26, nameIndex := 172, descriptorIndex := 173, attributes := #[] }, { accessFlags := 26, nameIndex := 176, descriptorIndex := 173, attributes := #[] }, { accessFlags := 8, nameIndex := 344, descriptorIndex := 339, attributes := #[] }, { accessFlags := 8, nameIndex := 338, descriptorIndex := 339, attributes := #[] }, { accessFlags := 4120, nameIndex := 245, descriptorIndex := 246, attributes := #[] }])
  fields := #[{ name := "E", type := .double, accessFlags := 25, slot := 0, constantValue := 0 }, { name := "PI", type := .double, accessFlags := 25, slot := 1, constantValue := 0 }, { name := "TAU", type := .double, accessFlags := 25, slot := 2, constantValue := 0 }, { name := "DEGREES_TO_RADIANS", type := .double, accessFlags := 26, slot := 3, constantValue := 0 }, { name := "RADIANS_TO_DEGREES", type := .double, accessFlags := 26, slot := 4, constantValue := 0 }, { name := "negativeZeroFloatBits", type := .long, accessFlags := 26, slot := 5, constantValue := 0 }, { name := "negativeZeroDoubleBits", type := .long, accessFlags := 26, slot := 6, constantValue := 0 }, { name := "twoToTheDoubleScaleUp", type := .double, accessFlags := 8, slot := 7, constantValue := 0 }, { name := "twoToTheDoubleScaleDown", type := .double, accessFlags := 8, slot := 8, constantValue := 0 }, { name := "$assertionsDisabled", type := .boolean, accessFlags := 4120, slot := 9, constantValue := 0 }]
  methods := #[k2m0, k2m1]
  instanceTypes := #[]
  staticTypes := #[.double, .double, .double, .double, .double, .long, .long, .double, .double, .boolean]
  resolved := Array.replicate 460 none
  statics := none }

def pool3 : Array CpInfo := pool [(1, .methodref 2 3), (0, .class_ 4), (0, .nameAndType 5 6), (0, u "java/lang/Object"), (0, u "<init>"), (0, u "()V"), (0, .class_ 8), (0, u "java/lang/Record")] 13

def k3c0 : Code := { maxStack := 1, maxLocals := 1, code := jdk_30_method_1_code, exceptionTable := #[], attributes := #[] }
def k3m0 : Method := { name := "<init>", desc := "()V", sig := { parameters := [], returnType := none }, accessFlags := 4, code := some k3c0 }
/-- java/lang/Record -/
def k3 : Class := { plain "java/lang/Record" (some 0) with
  accessFlags := 1057
  interfaces := #[]
  cf := some (fileOf pool3 7 #[] #[{ accessFlags := 4, nameIndex := 5, descriptorIndex := 6, attributes := #[] }] 1057 2 #[] #[])
  fields := #[]
  methods := #[k3m0]
  instanceTypes := #[]
  staticTypes := #[]
  resolved := Array.replicate 22 none
  statics := none }

def pool4 : Array CpInfo := pool [(1, .methodref 2 3), (0, .class_ 4), (0, .nameAndType 5 6), (0, u "java/lang/Record"), (0, u "<init>"), (0, u "()V"), (3, .class_ 12), (1, u "com/example/ensyn/ensyn/replay/TokenCounts"), (10, .fieldref 10 24), (0, .nameAndType 25 26), (0, u "consumed"), (0, u "J"), (0, .fieldref 10 28), (0, .nameAndType 29 26), (0, u "produced"), (0, .fieldref 10 31), (0, .nameAndType 32 26), (0, u "missing"), (0, .fieldref 10 34), (0, .nameAndType 35 26), (0, u "remaining"), (8, u "(JJJJ)V"), (0, .double 4602678819172646912), (1, .methodref 10 48), (0, .nameAndType 49 50), (0, u "ratio"), (0, u "(JJ)D"), (16, u "NONE"), (0, u "Lcom/example/ensyn/ensyn/replay/TokenCounts;"), (8, u "fitness"), (0, u "()D")] 40

def k4c0 : Code := { maxStack := 10, maxLocals := 9, code := prog_22_method_1_code, exceptionTable := #[], attributes := #[] }
def k4m0 : Method := { name := "<init>", desc := "(JJJJ)V", sig := { parameters := [.long, .long, .long, .long], returnType := none }, accessFlags := 1, code := some k4c0 }
def k4c1 : Code := { maxStack := 10, maxLocals := 1, code := prog_22_method_4_code, exceptionTable := #[], attributes := #[] }
def k4m1 : Method := { name := "fitness", desc := "()D", sig := { parameters := [], returnType := some .double }, accessFlags := 1, code := some k4c1 }
def k4c2 : Code := { maxStack := 4, maxLocals := 4, code := prog_22_method_6_code, exceptionTable := #[], attributes := #[] }
def k4m2 : Method := { name := "ratio", desc := "(JJ)D", sig := { parameters := [.long, .long], returnType := some .double }, accessFlags := 10, code := some k4c2 }
/-- com/example/ensyn/ensyn/replay/TokenCounts -/
def k4 : Class := { plain "com/example/ensyn/ensyn/replay/TokenCounts" (some 3) with
  accessFlags := 49
  interfaces := #[]
  cf := some (fileOf pool4 10 #[] #[{ accessFlags := 1, nameIndex := 5, descriptorIndex := 44, attributes := #[] }, { accessFlags := 1, nameIndex := 77, descriptorIndex := 78, attributes := #[] }, { accessFlags := 10, nameIndex := 49, descriptorIndex := 50, attributes := #[] }] 49 2 #[] #[{ accessFlags := 18, nameIndex := 25, descriptorIndex := 26, attributes := #[] }, { accessFlags := 18, nameIndex := 29, descriptorIndex := 26, attributes := #[] }, { accessFlags := 18, nameIndex := 32, descriptorIndex := 26, attributes := #[] }, { accessFlags := 18, nameIndex := 35, descriptorIndex := 26, attributes := #[] }, { accessFlags := 25, nameIndex := 67, descriptorIndex := 68, attributes := #[] }])
  fields := #[{ name := "consumed", type := .long, accessFlags := 18, slot := 0, constantValue := 0 }, { name := "produced", type := .long, accessFlags := 18, slot := 1, constantValue := 0 }, { name := "missing", type := .long, accessFlags := 18, slot := 2, constantValue := 0 }, { name := "remaining", type := .long, accessFlags := 18, slot := 3, constantValue := 0 }, { name := "NONE", type := (.object "com/example/ensyn/ensyn/replay/TokenCounts"), accessFlags := 25, slot := 0, constantValue := 0 }]
  methods := #[k4m0, k4m1, k4m2]
  instanceTypes := #[.long, .long, .long, .long]
  staticTypes := #[(.object "com/example/ensyn/ensyn/replay/TokenCounts")]
  resolved := Array.replicate 119 none
  statics := none }

def pool5 : Array CpInfo := pool [(1, u "java/lang/Cloneable"), (0, .class_ 1), (0, u "java/lang/Object"), (0, .class_ 3)] 3

/-- java/lang/Cloneable -/
def k5 : Class := { plain "java/lang/Cloneable" (some 0) with
  accessFlags := 1537
  interfaces := #[]
  cf := some (fileOf pool5 2 #[] #[] 1537 4 #[] #[])
  fields := #[]
  methods := #[]
  instanceTypes := #[]
  staticTypes := #[]
  resolved := Array.replicate 8 none
  statics := none }

def pool6 : Array CpInfo := pool [(1, u "java/io/Serializable"), (0, .class_ 1), (0, u "java/lang/Object"), (0, .class_ 3)] 3

/-- java/io/Serializable -/
def k6 : Class := { plain "java/io/Serializable" (some 0) with
  accessFlags := 1537
  interfaces := #[]
  cf := some (fileOf pool6 2 #[] #[] 1537 4 #[] #[])
  fields := #[]
  methods := #[]
  instanceTypes := #[]
  staticTypes := #[]
  resolved := Array.replicate 8 none
  statics := none }

/-- the primitive byte -/
def k7 : Class := { plain "byte" none with kind := .primitive 'B', accessFlags := 0x411 }
/-- [B -/
def k8 : Class := { plain "[B" (some 0) with kind := .array 7 .byte, interfaces := #[5, 6], accessFlags := 1041 }

/-- the primitive int -/
def k9 : Class := { plain "int" none with kind := .primitive 'I', accessFlags := 0x411 }
/-- [I -/
def k10 : Class := { plain "[I" (some 0) with kind := .array 9 .int, interfaces := #[5, 6], accessFlags := 1041 }

def heap : Heap := #[]
def classes : Array Class := #[k0, k1, k2, k3, k4, k5, k6, k7, k8, k9, k10]
def interned : List (Array UInt16 × Addr) := []
def slotsUsed : Nat := 0
def theMethod : MethodId := ⟨1, 1⟩
def args0 : Array Value := #[.int 3, .int 5, .int 0, .long 7]
def aboutOver (below : List Frame) : State where
  vm := { classes := classes, interned := interned.toArray }
  heap := heap
  slotsUsed := slotsUsed
  threads := #[{ frames := .invoking theMethod args0 :: below }]
def below0 : List Frame := [.native { method := ⟨0, 0⟩, args := #[] }]
def about1 : State := aboutOver below0
def p0 : Program := .bare "" "" ""
def e0 : Env := launch0.env 0 0 0
theorem w_frames : about1.frames = Frame.invoking theMethod args0 :: below0 := rfl
set_option maxRecDepth 65536 in
theorem w_args : argsFit about1.vm theMethod args0 = true := by decide +kernel
set_option maxRecDepth 65536 in
theorem w_heap : heapFits about1 = true := by decide +kernel
set_option maxRecDepth 65536 in
theorem w_runnable : about1.curStatus? = some .runnable := by decide +kernel
set_option maxRecDepth 65536 in
theorem w_alone : about1.alone = true := by decide +kernel
set_option maxRecDepth 65536 in
theorem w_named : about1.methodNamed? x = some theMethod := by decide +kernel
set_option maxRecDepth 65536 in
theorem w_hears : about1.hears theMethod below0 = true := by decide +kernel
set_option maxRecDepth 65536 in
theorem w_ripe : about1.ripe theMethod args0 below0 = true := by decide +kernel
theorem w_running : about1.status = .running := rfl
set_option maxRecDepth 65536 in
theorem w_room : about1.hasRoom e0.platform room_1 = true :=
  launch0.hasRoom_least _ room_1 (by decide +kernel) (by decide +kernel) (by decide +kernel) (by decide +kernel) (by decide +kernel) (by decide +kernel)
theorem allAtoms_all (ts : List Jvm.Cond) (a : Array Jvm.Value) (st : Jvm.State) : (allAtoms ts).before a st = ts.all (fun c => c.before a st) := by
  induction ts with
  | nil => rfl
  | cons c t ih =>
    show (Jvm.Cond.and c (allAtoms t)).before a st = _
    rw [Jvm.Cond.before_and, ih, List.all_cons]
def words1 : List Jvm.Cond := Jvm.Cond.code x code maxLocals ret :: tables_1
/-- a 'code' word, met by the world's own term for the bytes: nothing is compared byte by byte -/
theorem code_word {y : MethodName} {bytes : ByteArray} {mx : Nat} {rt : Option FieldType} {a : Array Value} {s : State} {m : MethodId} {meth : Method} {c : Code} (h1 : s.methodNamed? y = some m) (h2 : s.vm.method? m = some meth) (h3 : meth.code = some c) (h4 : c.code = bytes)
    (h5 : (c.maxLocals == mx && c.exceptionTable.isEmpty && decide (c.maxStack ≤ mostOperands) && decide (meth.sig.returnType = rt) && !meth.locks && decide (parseMethodDescriptor y.desc = some meth.sig)) = true) : (Jvm.Cond.code y bytes mx rt).before a s = true := by
  simp only [Bool.and_eq_true, beq_iff_eq, Bool.not_eq_true', decide_eq_true_eq] at h5
  obtain ⟨⟨⟨⟨⟨g1, g2⟩, g3⟩, g4⟩, g5⟩, g6⟩ := h5
  simp [Cond.before, Cond.holds, Cond.value, h1, h2, h3, h4, g1, g2, g3, g4, g5, g6]
def isCode : Jvm.Cond → Bool
  | .code _ _ _ _ => true
  | _ => false
theorem all_split {L : List Jvm.Cond} {P : Jvm.Cond → Bool} (h1 : L.all (fun c => isCode c || P c) = true) (h2 : ∀ c ∈ L.filter isCode, P c = true) : L.all P = true := by
  refine List.all_eq_true.mpr fun c hc => ?_
  have h := List.all_eq_true.mp h1 c hc
  rcases Bool.eq_false_or_eq_true (isCode c) with hi | hi
  · exact h2 c (List.mem_filter.mpr ⟨hc, hi⟩)
  · simpa [hi] using h
set_option maxRecDepth 65536 in
theorem w_c0 : (Jvm.Cond.code x code maxLocals ret).before args0 about1 = true := code_word (m := ⟨1, 1⟩) (meth := k1m1) (c := k1c1) (by decide +kernel) rfl rfl rfl (by decide +kernel)
set_option maxRecDepth 65536 in
theorem w_c1 : (Jvm.Cond.code ({ cls := "java/lang/Math", name := "max", desc := "(JJ)J" } : Jvm.MethodName) jdk_29_method_66_code (4 : Nat) (Option.some Jvm.ClassFile.FieldType.long)).before args0 about1 = true := code_word (m := ⟨2, 1⟩) (meth := k2m1) (c := k2c1) (by decide +kernel) rfl rfl rfl (by decide +kernel)
set_option maxRecDepth 65536 in
theorem w_c2 : (Jvm.Cond.code ({ cls := "com/example/ensyn/ensyn/replay/TokenCounts", name := "<init>", desc := "(JJJJ)V" } : Jvm.MethodName) prog_22_method_1_code (9 : Nat) (Option.none : Option Jvm.ClassFile.FieldType)).before args0 about1 = true := code_word (m := ⟨4, 0⟩) (meth := k4m0) (c := k4c0) (by decide +kernel) rfl rfl rfl (by decide +kernel)
set_option maxRecDepth 65536 in
theorem w_c3 : (Jvm.Cond.code ({ cls := "java/lang/Record", name := "<init>", desc := "()V" } : Jvm.MethodName) jdk_30_method_1_code (1 : Nat) (Option.none : Option Jvm.ClassFile.FieldType)).before args0 about1 = true := code_word (m := ⟨3, 0⟩) (meth := k3m0) (c := k3c0) (by decide +kernel) rfl rfl rfl (by decide +kernel)
set_option maxRecDepth 65536 in
theorem w_c4 : (Jvm.Cond.code ({ cls := "java/lang/Object", name := "<init>", desc := "()V" } : Jvm.MethodName) object_method_1_code (1 : Nat) (Option.none : Option Jvm.ClassFile.FieldType)).before args0 about1 = true := code_word (m := ⟨0, 0⟩) (meth := k0m0) (c := k0c0) (by decide +kernel) rfl rfl rfl (by decide +kernel)
set_option maxRecDepth 65536 in
theorem w_c5 : (Jvm.Cond.code ({ cls := "com/example/ensyn/ensyn/replay/TokenCounts", name := "fitness", desc := "()D" } : Jvm.MethodName) prog_22_method_4_code (1 : Nat) (Option.some Jvm.ClassFile.FieldType.double)).before args0 about1 = true := code_word (m := ⟨4, 1⟩) (meth := k4m1) (c := k4c1) (by decide +kernel) rfl rfl rfl (by decide +kernel)
set_option maxRecDepth 65536 in
theorem w_c6 : (Jvm.Cond.code ({ cls := "com/example/ensyn/ensyn/replay/TokenCounts", name := "ratio", desc := "(JJ)D" } : Jvm.MethodName) prog_22_method_6_code (4 : Nat) (Option.some Jvm.ClassFile.FieldType.double)).before args0 about1 = true := code_word (m := ⟨4, 2⟩) (meth := k4m2) (c := k4c2) (by decide +kernel) rfl rfl rfl (by decide +kernel)
def codes1 : List Jvm.Cond := [Jvm.Cond.code x code maxLocals ret, Jvm.Cond.code ({ cls := "java/lang/Math", name := "max", desc := "(JJ)J" } : Jvm.MethodName) jdk_29_method_66_code (4 : Nat) (Option.some Jvm.ClassFile.FieldType.long), Jvm.Cond.code ({ cls := "com/example/ensyn/ensyn/replay/TokenCounts", name := "<init>", desc := "(JJJJ)V" } : Jvm.MethodName) prog_22_method_1_code (9 : Nat) (Option.none : Option Jvm.ClassFile.FieldType), Jvm.Cond.code ({ cls := "java/lang/Record", name := "<init>", desc := "()V" } : Jvm.MethodName) jdk_30_method_1_code (1 : Nat) (Option.none : Option Jvm.ClassFile.FieldType), Jvm.Cond.code ({ cls := "java/lang/Object", name := "<init>", desc := "()V" } : Jvm.MethodName) object_method_1_code (1 : Nat) (Option.none : Option Jvm.ClassFile.FieldType), Jvm.Cond.code ({ cls := "com/example/ensyn/ensyn/replay/TokenCounts", name := "fitness", desc := "()D" } : Jvm.MethodName) prog_22_method_4_code (1 : Nat) (Option.some Jvm.ClassFile.FieldType.double), Jvm.Cond.code ({ cls := "com/example/ensyn/ensyn/replay/TokenCounts", name := "ratio", desc := "(JJ)D" } : Jvm.MethodName) prog_22_method_6_code (4 : Nat) (Option.some Jvm.ClassFile.FieldType.double)]
set_option maxRecDepth 65536 in
theorem codes_eq : words1.filter isCode = codes1 := rfl
theorem w_codes : ∀ c ∈ words1.filter isCode, c.before args0 about1 = true := by
  rw [codes_eq]
  intro c hc
  simp only [codes1, List.mem_cons, List.not_mem_nil, or_false] at hc
  rcases hc with rfl | rfl | rfl | rfl | rfl | rfl | rfl
  · exact w_c0
  · exact w_c1
  · exact w_c2
  · exact w_c3
  · exact w_c4
  · exact w_c5
  · exact w_c6
set_option maxRecDepth 65536 in
theorem w_t1 : (words1.take 24).all (fun c => isCode c || c.before args0 about1) = true := by decide +kernel
set_option maxRecDepth 65536 in
theorem w_t2 : (words1.drop 24).all (fun c => isCode c || c.before args0 about1) = true := by decide +kernel
theorem w_tables : (allAtoms (Jvm.Cond.code x code maxLocals ret :: tables_1)).before args0 about1 = true := by
  rw [allAtoms_all]
  show words1.all (fun c => c.before args0 about1) = true
  refine all_split ?_ w_codes
  rw [← List.take_append_drop 24 words1, List.all_append, w_t1, w_t2]
  rfl
set_option maxRecDepth 65536 in
theorem w_case : (Jvm.Cond.and given_1 narrow_1).before args0 about1 = true := by decide +kernel
theorem w_applies : (headSpec (Jvm.Cond.code x code maxLocals ret :: tables_1) room_1).applies x e0.platform about1 = true :=
  (Spec.applies_iff w_frames).mpr ⟨w_running, w_runnable, w_alone, w_named, w_hears, w_ripe, w_room, w_tables⟩
theorem atStart : AtStart classFile x code maxLocals ret World_1 tables_1 room_1 Calls_1 rest_1 Pre_1 launch0 p0 e0 about1 theMethod args0 below0 :=
  ⟨lists_1, trivial, launch0.admits_env _ _ _, launch0.least_env, fairChoices_fair.cas, fairChoices_fair.clock, w_frames, w_args, w_heap, w_applies, trivial, trivial, w_case⟩
end start1
theorem witness_1 : WitnessClaimed_1 := ⟨start1.p0, start1.e0, start1.about1, start1.theMethod, start1.args0, start1.below0, start1.atStart⟩
end Jvm.Pilot.@@N@@
