import JvmDerived
import JvmDerived.Pilot.@@N@@Statement
import JvmDerived.Pilot.@@N@@Code
set_option linter.unusedVariables false
set_option linter.unusedSimpArgs false
namespace Jvm.RoadKit
open Sem ClassFile Op Lib Jvm.Stand Jvm.Free Jvm.LawKit
section New
variable {p : Program} {l : Launch} {e : Env} {R : Room} {s : State} {m : MethodId} {args : Array Value} {below : List Frame} {meth : Method} {c : Code} {T : State} {locs : List Loc} {cells slots : Nat}
theorem retI (X : Stand p l e R s m args below meth c T locs cells slots) (hx : p.tables.exec = Jvm.exec) {pc : Nat} {Ls : Array Slot} {z : Int32} {rest : List Value} (hret : meth.sig.returnType = some .int) (hd : decode c.code pc = .ok (.ireturn, 1)) {fs : List Frame}
    (hl : ∀ (f : JFrame) (acts : List Action), f.method = m → f.locked = none → f.entered = [] → (doReturn e (T.setTop f) acts (some (.int z))).1 = T.setFrames fs) : Steps p.tables e below (T.setTop (mkF m pc Ls (.int z :: rest))) (T.setFrames fs) := by
  have hm' : T.vm.method? m = some meth := X.method'
  have hn : narrow .int (.int z) = .int z := rfl
  show Steps p.tables e below (T.setTop { method := m, pc := pc, locals := Ls, stack := _ :: rest, locked := none }) _
  jvm_step X.here [X.here.top, hx, hd, hm', hret, hn]
  first | (intro acts; rw [hl _ acts rfl rfl rfl]) | rw [hl _ _ rfl rfl rfl]
  exact Steps.refl _
theorem lremM {g : JFrame} {target : State} (X : Stand p l e R s m args below meth c T locs cells slots) (hx : p.tables.exec = Jvm.exec) (hg : g.method = m) {x y : Int64} {rest : List Value} (hd : decode c.code g.pc = .ok (.lrem, 1)) (hs : g.stack = .long y :: .long x :: rest) (hy : y ≠ 0)
    (hr : Steps p.tables e below (T.setTop { g with pc := g.pc + 1, stack := .long (x % y) :: rest }) target) : Steps p.tables e below (T.setTop g) target := by
  have q : x - x / y * y = x % y := lrem_mod x y
  exact XS.lrem X.here hx hg hd hs hy (by rw [q]; exact hr)
/-- from the state t the invocation ends as Q says -/
def Done (p : Program) (e : Env) (below : List Frame) (Q : Outcome → State → Prop) (t : State) : Prop := ∃ s₂ o, Steps p.tables e below t s₂ ∧ s₂.status = .running ∧ Ended s₂ below o ∧ Q o s₂
theorem Done.of {p : Program} {e : Env} {below : List Frame} {Q : Outcome → State → Prop} {t t' : State} (h : Done p e below Q t') (k : ∀ target, Steps p.tables e below t' target → Steps p.tables e below t target) : Done p e below Q t := by
  obtain ⟨s₂, o, h1, h2⟩ := h
  exact ⟨s₂, o, k _ h1, h2⟩
end New
end Jvm.RoadKit
-- (own work) doubles, monotone rounding: Relaxation.leastReaching between doubles
namespace Own
open Jvm.FP.Core
def Rep (z : Int) : Prop := ∃ V : UInt64, DFin V ∧ zval b64 (val64 V) = z
theorem rep (n : Int) (hn : n.natAbs < 2 ^ 53) (j : Nat) (hj : j ≤ 2045) : Rep (n * ((2 ^ j : Nat) : Int)) := by
  have hq : b64.qmax - b64.qmin = 2045 := by decide +kernel
  obtain ⟨c', q', h1, h2⟩ := round_exact good_b64 (decide (n < 0)) (c := n.natAbs) (q := b64.qmin + j) hn (by omega) (by omega)
  have hf := round_fits good_b64 (.fin (decide (n < 0)) n.natAbs (b64.qmin + j))
  refine ⟨of64 (.fin (decide (n < 0)) c' q'), ?_, ?_⟩
  · rw [h1] at hf
    exact ⟨_, _, _, val64_of64 hf⟩
  · rw [h1] at hf
    rw [val64_of64 hf]
    show signed (decide (n < 0)) (inUnits c' q' b64.qmin) = _
    rw [h2]
    unfold inUnits
    rw [show (b64.qmin + (j : Int) - b64.qmin).toNat = j by omega, signed_mul]
    congr 1
    unfold signed
    by_cases h : n < 0 <;> simp [h] <;> omega
theorem finOf {x V : UInt64} (hx : val64 x ≠ .nan) (hV : DFin V) (h : zval b64 (val64 x) = zval b64 (val64 V)) : DFin x := by
  have h1 := hV.zval_lt
  cases hv : val64 x with
  | nan => exact absurd hv hx
  | fin s c q => exact ⟨s, c, q, hv⟩
  | inf s =>
    exfalso
    rw [hv] at h
    have h2 : (zval b64 (.inf s)).natAbs = b64.tails * 2 ^ (b64.exps - 2) := natAbs_signed _ _
    rw [h] at h2
    have h3 : (zval b64 (val64 V)).natAbs = zmag b64 (val64 V) := natAbs_signed _ _
    omega
theorem add {a b : UInt64} {z : Int} (ha : DFin a) (hb : DFin b) (hz : zval b64 (val64 a) + zval b64 (val64 b) = z) (r : Rep z) : DFin (dadd a b) ∧ zval b64 (val64 (dadd a b)) = z := by
  obtain ⟨V, hV, rfl⟩ := r
  have e : zval b64 (val64 (dadd a b)) = zval b64 (val64 V) := by
    rw [val64_dadd]
    exact Int.le_antisymm (sum_le good_b64 ha hb (val64_fits a) (val64_fits b) (val64_fits V) hV.ne_nan (Int.le_of_eq hz)) (sum_ge good_b64 ha hb (val64_fits a) (val64_fits b) (val64_fits V) hV.ne_nan (Int.le_of_eq hz.symm))
  exact ⟨finOf ((notNaN_iff _).mp (dadd_out ha.notNaN hb)) hV e, e⟩
theorem neg {b : UInt64} (hb : DFin b) : DFin (dneg b) ∧ zval b64 (val64 (dneg b)) = -zval b64 (val64 b) := by
  obtain ⟨s, c, q, h⟩ := hb
  refine ⟨⟨!s, c, q, ?_⟩, ?_⟩
  · rw [val64_dneg, h]; rfl
  · rw [val64_dneg, zval_negate]
theorem sub {a b : UInt64} {z : Int} (ha : DFin a) (hb : DFin b) (hz : zval b64 (val64 a) - zval b64 (val64 b) = z) (r : Rep z) : DFin (dsub a b) ∧ zval b64 (val64 (dsub a b)) = z := by
  rw [dsub_eq]
  exact add ha (neg hb).1 (by rw [(neg hb).2]; omega) r
theorem mul {a b : UInt64} {z : Int} (ha : DFin a) (hb : DFin b) (hz : zval b64 (val64 a) * zval b64 (val64 b) = z * (one64 : Int)) (r : Rep z) : DFin (dmul a b) ∧ zval b64 (val64 (dmul a b)) = z := by
  obtain ⟨V, hV, rfl⟩ := r
  have hn := (notNaN_iff _).mp (dmul_out ha hb)
  obtain ⟨s, c, q, h1⟩ := ha
  obtain ⟨t, d, u, h2⟩ := hb
  have f1 := val64_fits a
  have f2 := val64_fits b
  rw [h1] at f1 hz
  rw [h2] at f2 hz
  obtain ⟨p1, p2, p3⟩ := product_units f1 f2
  have e0 : b64.qmin - 2 * b64.qmin = -b64.qmin := by omega
  have e2 : signed (s != t) (inUnits (c * d) (q + u) (2 * b64.qmin)) = zval b64 (val64 V) * ((2 ^ (b64.qmin - 2 * b64.qmin).toNat : Nat) : Int) := by
    rw [p3, signed_xor, e0, pow_qmin64]; exact hz
  have e : zval b64 (val64 (dmul a b)) = zval b64 (val64 V) := by
    rw [val64_dmul, h1, h2, p1]
    exact Int.le_antisymm (zval_round_le good_b64 (val64_fits V) hV.ne_nan (by decide +kernel) p2 (Int.le_of_eq e2)) (zval_round_ge good_b64 (val64_fits V) hV.ne_nan (by decide +kernel) p2 (Int.le_of_eq e2.symm))
  exact ⟨finOf hn hV e, e⟩
theorem one64c : (one64 : Int) = ((2 ^ 1074 : Nat) : Int) := rfl
theorem p2 (i j : Nat) : ((2 ^ i : Nat) : Int) * ((2 ^ j : Nat) : Int) = ((2 ^ (i + j) : Nat) : Int) := by rw [← Int.natCast_mul, ← Nat.pow_add]
theorem p3 (x : Int) (i j : Nat) : x * ((2 ^ i : Nat) : Int) * ((2 ^ j : Nat) : Int) = x * ((2 ^ (i + j) : Nat) : Int) := by rw [Int.mul_assoc, p2]
theorem mulB {a b V : UInt64} (ha : DFin a) (hb : DFin b) (hV : DFin V) : (zval b64 (val64 a) * zval b64 (val64 b) ≤ zval b64 (val64 V) * (one64 : Int) → zval b64 (val64 (dmul a b)) ≤ zval b64 (val64 V)) ∧ (zval b64 (val64 V) * (one64 : Int) ≤ zval b64 (val64 a) * zval b64 (val64 b) → zval b64 (val64 V) ≤ zval b64 (val64 (dmul a b))) := by
  obtain ⟨s, c, q, h1⟩ := ha
  obtain ⟨t, d, u, h2⟩ := hb
  have f1 := val64_fits a
  have f2 := val64_fits b
  rw [h1] at f1
  rw [h2] at f2
  obtain ⟨p1, p2, p3⟩ := product_units f1 f2
  have e0 : b64.qmin - 2 * b64.qmin = -b64.qmin := by omega
  have e2 : signed (s != t) (inUnits (c * d) (q + u) (2 * b64.qmin)) = zval b64 (val64 a) * zval b64 (val64 b) := by
    rw [p3, signed_xor, h1, h2]; rfl
  constructor
  · intro hz
    rw [val64_dmul, h1, h2, p1]
    exact zval_round_le good_b64 (val64_fits V) hV.ne_nan (by decide +kernel) p2 (by rw [e2, e0, pow_qmin64]; exact hz)
  · intro hz
    rw [val64_dmul, h1, h2, p1]
    exact zval_round_ge good_b64 (val64_fits V) hV.ne_nan (by decide +kernel) p2 (by rw [e2, e0, pow_qmin64]; exact hz)
theorem subB {a b V : UInt64} (ha : DFin a) (hb : DFin b) (hV : DFin V) : (zval b64 (val64 a) - zval b64 (val64 b) ≤ zval b64 (val64 V) → zval b64 (val64 (dsub a b)) ≤ zval b64 (val64 V)) ∧ (zval b64 (val64 V) ≤ zval b64 (val64 a) - zval b64 (val64 b) → zval b64 (val64 V) ≤ zval b64 (val64 (dsub a b))) := by
  have hn := neg hb
  rw [dsub_eq, val64_dadd]
  exact ⟨fun h => sum_le good_b64 ha hn.1 (val64_fits a) (val64_fits _) (val64_fits V) hV.ne_nan (by rw [hn.2]; omega), fun h => sum_ge good_b64 ha hn.1 (val64_fits a) (val64_fits _) (val64_fits V) hV.ne_nan (by rw [hn.2]; omega)⟩
theorem finBet {x V W : UInt64} (hx : val64 x ≠ .nan) (hV : DFin V) (hW : DFin W) (h1 : zval b64 (val64 V) ≤ zval b64 (val64 x)) (h2 : zval b64 (val64 x) ≤ zval b64 (val64 W)) : DFin x := by
  have b1 := hV.zval_lt
  have b2 := hW.zval_lt
  cases hv : val64 x with
  | nan => exact absurd hv hx
  | fin s c q => exact ⟨s, c, q, hv⟩
  | inf s =>
    exfalso
    rw [hv] at h1 h2
    have e3 : (zval b64 (val64 V)).natAbs = zmag b64 (val64 V) := natAbs_signed _ _
    have e4 : (zval b64 (val64 W)).natAbs = zmag b64 (val64 W) := natAbs_signed _ _
    have e5 : zval b64 (.inf s) = signed s (b64.tails * 2 ^ (b64.exps - 2)) := rfl
    rw [e5] at h1 h2
    generalize b64.tails * 2 ^ (b64.exps - 2) = P at *
    cases s <;> simp [signed] at h1 h2 <;> omega
/-- a multiple of 2^1021 -/
theorem mult {c k : Nat} (hc : c < 2 ^ 53) (h : 2 ^ 1073 ≤ c * 2 ^ k) : ∃ A, c * 2 ^ k = A * 2 ^ 1021 := by
  have hk : 1021 ≤ k := by
    refine Nat.le_of_not_lt fun hlt => ?_
    have h1 : c * 2 ^ k ≤ (2 ^ 53 - 1) * 2 ^ 1020 := Nat.mul_le_mul (by omega) (Nat.pow_le_pow_right (by decide) (by omega))
    have h2 : (2 ^ 53 - 1) * 2 ^ 1020 + 2 ^ 1020 = 2 ^ 1073 := by decide +kernel
    have h3 : 0 < 2 ^ 1020 := Nat.two_pow_pos _
    generalize (2 ^ 53 - 1) * 2 ^ 1020 = P at *
    generalize 2 ^ 1020 = Q at *
    generalize 2 ^ 1073 = R at *
    omega
  exact ⟨c * 2 ^ (k - 1021), by rw [Nat.mul_assoc, ← Nat.pow_add, Nat.sub_add_cancel hk]⟩
theorem fin0 : DFin 0 ∧ zval b64 (val64 0) = 0 := ⟨(fin_bits _).mpr (by decide), zval64_zero⟩
theorem finN : DFin 4503599627370496 ∧ zval b64 (val64 4503599627370496) = ((2 ^ 52 : Nat) : Int) := ⟨(fin_bits _).mpr (by decide), by decide +kernel⟩
theorem absorb {y : UInt64} (hy : DFin y) (h1 : ((2 ^ 1074 : Nat) : Int) ≤ zval b64 (val64 y)) : zval b64 (val64 y) ≤ zval b64 (val64 (dsub y 4503599627370496)) := by
  have hn := neg finN.1
  have hyl := hy.zval_lt
  rw [dsub_eq, val64_dadd]
  obtain ⟨s', c', q', hyv⟩ := hy
  obtain ⟨t', d', u', hmv⟩ := hn.1
  have fy := val64_fits y
  have fm := val64_fits (dneg 4503599627370496)
  rw [hyv] at fy
  rw [hmv] at fm
  obtain ⟨sg, n, e, k1, k2, k3⟩ := sum_units fy fm
  rw [← hyv, ← hmv, hn.2, finN.2] at k3
  rw [← hyv, ← hmv] at k1
  rw [k1]
  have big : ((2 ^ 52 : Nat) : Int) + ((2 ^ 1073 : Nat) : Int) < ((2 ^ 1074 : Nat) : Int) := by decide +kernel
  have hsg : sg = false := by
    cases sg with
    | false => rfl
    | true =>
      exfalso
      simp only [signed, if_true] at k3
      generalize ((2 ^ 1074 : Nat) : Int) = P at *
      have : (0 : Int) < ((2 ^ 1073 : Nat) : Int) := by decide +kernel
      generalize ((2 ^ 1073 : Nat) : Int) = Q at *
      omega
  subst hsg
  have hX : ((inUnits n e b64.qmin : Nat) : Int) = zval b64 (val64 y) - ((2 ^ 52 : Nat) : Int) := by
    have : signed false (inUnits n e b64.qmin) = ((inUnits n e b64.qmin : Nat) : Int) := rfl
    omega
  have hzy : zval b64 (val64 y) = ((inUnits c' q' b64.qmin : Nat) : Int) := by
    rw [hyv] at h1 ⊢
    have e1 : zval b64 (.fin s' c' q') = signed s' (inUnits c' q' b64.qmin) := rfl
    rw [e1] at h1 ⊢
    cases s' with
    | false => rfl
    | true =>
      exfalso
      simp only [signed, if_true] at h1
      have : (0 : Int) < ((2 ^ 1074 : Nat) : Int) := by decide +kernel
      generalize ((2 ^ 1074 : Nat) : Int) = P at *
      omega
  rcases roundRatio_cases b64 false n 1 e with ⟨c, q, hR⟩ | hR
  · have hd := roundRatio_nearest good_b64 (by decide) hR fy.1 fy.2.1 (Int.le_refl _) k2
    have hfit := roundRatio_fits good_b64 false n (B := 1) (by decide) e
    show _ ≤ zval b64 (roundRatio b64 false n 1 e)
    rw [hR] at hfit ⊢
    have e2 : zval b64 (.fin false c q) = ((inUnits c q b64.qmin : Nat) : Int) := rfl
    rw [e2]
    unfold distance at hd
    rw [hzy] at hX h1 ⊢
    refine Int.le_of_not_gt fun hlt => ?_
    have hc53 : c < 2 ^ 53 := hfit.1
    have hc53' : c' < 2 ^ 53 := fy.1
    have g1 : 2 ^ 1073 ≤ inUnits c q b64.qmin := by
      have big2 : ((2 ^ 53 : Nat) : Int) + ((2 ^ 1073 : Nat) : Int) < ((2 ^ 1074 : Nat) : Int) := by decide +kernel
      have q1 : ((2 ^ 1073 : Nat) : Int) ≤ ((inUnits c q b64.qmin : Nat) : Int) := by
        generalize ((2 ^ 1073 : Nat) : Int) = Q at *
        generalize ((2 ^ 1074 : Nat) : Int) = P at *
        omega
      exact Int.ofNat_le.mp q1
    have g2 : 2 ^ 1073 ≤ inUnits c' q' b64.qmin := by
      have q1 : ((2 ^ 1073 : Nat) : Int) ≤ ((inUnits c' q' b64.qmin : Nat) : Int) := by
        generalize ((2 ^ 1073 : Nat) : Int) = Q at *
        generalize ((2 ^ 1074 : Nat) : Int) = P at *
        omega
      exact Int.ofNat_le.mp q1
    obtain ⟨A, hA⟩ := mult hc53 (show 2 ^ 1073 ≤ c * 2 ^ (q - b64.qmin).toNat from g1)
    obtain ⟨B, hB⟩ := mult hc53' (show 2 ^ 1073 ≤ c' * 2 ^ (q' - b64.qmin).toNat from g2)
    have hA' : inUnits c q b64.qmin = A * 2 ^ 1021 := hA
    have hB' : inUnits c' q' b64.qmin = B * 2 ^ 1021 := hB
    rw [hA'] at hd hlt
    rw [hB'] at hX hlt hd
    have hP : 2 ^ 54 ≤ 2 ^ 1021 := Nat.pow_le_pow_right (by decide) (by decide)
    have hAB : A < B := by
      have : A * 2 ^ 1021 < B * 2 ^ 1021 := Int.ofNat_lt.mp hlt
      exact Nat.lt_of_mul_lt_mul_right this
    have hAB2 : (A + 1) * 2 ^ 1021 ≤ B * 2 ^ 1021 := Nat.mul_le_mul_right _ hAB
    rw [Nat.add_mul, Nat.one_mul] at hAB2
    generalize A * 2 ^ 1021 = a at *
    generalize B * 2 ^ 1021 = b at *
    generalize 2 ^ 1021 = P at *
    omega
  · show _ ≤ zval b64 (roundRatio b64 false n 1 e)
    rw [hR]
    have e3 : (zval b64 (val64 y)).natAbs = zmag b64 (val64 y) := natAbs_signed _ _
    have e5 : zval b64 (.inf false) = ((b64.tails * 2 ^ (b64.exps - 2) : Nat) : Int) := rfl
    rw [e5]
    generalize b64.tails * 2 ^ (b64.exps - 2) = P at *
    omega
def U : Int := ((2 ^ 992 : Nat) : Int)
theorem U_pos : 0 < U := by unfold U; decide +kernel
theorem repU (n : Int) (k : Nat) (hn : n.natAbs < 2 ^ 53) (hk : k ≤ 1000) : ∃ V : UInt64, DFin V ∧ zval b64 (val64 V) = n * ((2 ^ k : Nat) : Int) * U := by
  obtain ⟨V, h1, h2⟩ := rep n hn (k + 992) (by omega)
  exact ⟨V, h1, by rw [h2]; unfold U; rw [p3]⟩
theorem one64U : (one64 : Int) = ((2 ^ 82 : Nat) : Int) * U := by rw [one64c]; unfold U; rw [p2]
theorem finC : DFin 4472406533629990549 ∧ zval b64 (val64 4472406533629990549) = 4835703278458517 * U := ⟨(fin_bits _).mpr (by decide), by unfold U; decide +kernel⟩
theorem cancel (M t K u w : Int) (hw : 0 ≤ w) (hu : 0 ≤ u) : (M * t ≤ K → (M * u) * (t * w) ≤ K * u * w) ∧ (K ≤ M * t → K * u * w ≤ (M * u) * (t * w)) := by
  have e : (M * u) * (t * w) = (M * t) * (u * w) := by ac_rfl
  rw [e, Int.mul_assoc K u w]
  exact ⟨fun h => Int.mul_le_mul_of_nonneg_right h (Int.mul_nonneg hu hw), fun h => Int.mul_le_mul_of_nonneg_right h (Int.mul_nonneg hu hw)⟩
/-- the product with 1e-9, between doubles -/
theorem prodB {T V : UInt64} {t K : Int} (hT : DFin T) (zT : zval b64 (val64 T) = t * (one64 : Int)) (hV : DFin V) (zV : zval b64 (val64 V) = K * U) :
    (4835703278458517 * t ≤ K → zval b64 (val64 (dmul 4472406533629990549 T)) ≤ zval b64 (val64 V)) ∧ (K ≤ 4835703278458517 * t → zval b64 (val64 V) ≤ zval b64 (val64 (dmul 4472406533629990549 T))) := by
  have b := mulB finC.1 hT hV
  have c := cancel 4835703278458517 t K U (one64 : Int) (Int.natCast_nonneg _) (Int.le_of_lt U_pos)
  rw [finC.2, zT, zV] at b
  rw [zV]
  exact ⟨fun h => b.1 (c.1 h), fun h => b.2 (c.2 h)⟩
def least (T : UInt64) : UInt64 := dsub (dsub T (dmul 4472406533629990549 T)) 4503599627370496
theorem dl2 (x k u : Int) : x * k * u = k * (x * u) := by rw [Int.mul_comm x k, Int.mul_assoc]
theorem one_law {t s : Int} {T H L : UInt64} (hT : DFin T) (zT : zval b64 (val64 T) = t * (one64 : Int)) (ht : 1 ≤ t) (ht2 : t < 2147483648) (hs : s * 1000000000 ≤ t ∧ t < (s + 1) * 1000000000) (hs0 : 0 ≤ s) (hH : DFin H) (zH : zval b64 (val64 H) = (t - s) * (one64 : Int)) (hL : DFin L) (zL : zval b64 (val64 L) = (t - s - 1) * (one64 : Int)) :
    DFin (dmul 4472406533629990549 T) ∧ DFin (dsub T (dmul 4472406533629990549 T)) ∧ DFin (least T) ∧ zval b64 (val64 (least T)) < zval b64 (val64 T) ∧ zval b64 (val64 (least T)) ≤ zval b64 (val64 H) ∧ zval b64 (val64 L) ≤ zval b64 (val64 (least T)) := by
  obtain ⟨V0, f0, z0⟩ := repU s 82 (by omega) (by decide)
  obtain ⟨V1, f1, z1⟩ := repU (s + 1) 82 (by omega) (by decide)
  have a0 := (prodB hT zT f0 z0).2 (by omega)
  have a1 := (prodB hT zT f1 z1).1 (by omega)
  have nP := (notNaN_iff _).mp (dmul_out finC.1 hT)
  have fP : DFin (dmul 4472406533629990549 T) := finBet nP f0 f1 a0 a1
  -- y
  have nY := (notNaN_iff _).mp (dsub_out hT.notNaN fP)
  have y1 := (subB hT fP hH).1
  have y0 := (subB hT fP hL).2
  have q1 : ∃ V : UInt64, ∃ W : UInt64, ∃ d : Int, 0 < d ∧ DFin V ∧ DFin W ∧ zval b64 (val64 W) = d * U ∧ zval b64 (val64 V) = (t * 4835703278458516698824704 - d) * U ∧ d ≤ 4835703278458517 * t := by
    by_cases h : t < 4194304
    · obtain ⟨V, fV, zV⟩ := repU (t * 1073741824 - 1) 52 (by omega) (by decide)
      obtain ⟨W, fW, zW⟩ := repU 1 52 (by decide) (by decide)
      refine ⟨V, W, 4503599627370496, by decide, fV, fW, by rw [zW]; rfl, ?_, by omega⟩
      rw [zV]; congr 1; show (t * 1073741824 - 1) * 4503599627370496 = _; omega
    · obtain ⟨V, fV, zV⟩ := repU (t * 256 - 1) 74 (by omega) (by decide)
      obtain ⟨W, fW, zW⟩ := repU 1 74 (by decide) (by decide)
      refine ⟨V, W, 18889465931478580854784, by decide, fV, fW, by rw [zW]; rfl, ?_, by omega⟩
      rw [zV]; congr 1; show (t * 256 - 1) * 18889465931478580854784 = _; omega
  obtain ⟨V, W, d, hd, fV, fW, zW, zV, hdM⟩ := q1
  have a2 := (prodB hT zT fW zW).2 hdM
  have hU := U_pos
  have e82 : ((2 ^ 82 : Nat) : Int) = 4835703278458516698824704 := by decide
  have yV := (subB hT fP fV).1
  rw [one64U, e82] at zT zH zL
  rw [e82] at z0 z1
  -- distribute
  have zT' : zval b64 (val64 T) = 4835703278458516698824704 * (t * U) := by rw [zT, Int.mul_left_comm]
  have zH' : zval b64 (val64 H) = 4835703278458516698824704 * (t * U) - 4835703278458516698824704 * (s * U) := by rw [zH, Int.sub_mul, Int.mul_left_comm t, Int.mul_left_comm s]
  have zL' : zval b64 (val64 L) = 4835703278458516698824704 * (t * U) - 4835703278458516698824704 * (s * U) - 4835703278458516698824704 * U := by rw [zL, Int.sub_mul, Int.sub_mul, Int.one_mul, Int.mul_left_comm t, Int.mul_left_comm s]
  have z0' : zval b64 (val64 V0) = 4835703278458516698824704 * (s * U) := by rw [z0, dl2]
  have z1' : zval b64 (val64 V1) = 4835703278458516698824704 * (s * U) + 4835703278458516698824704 * U := by rw [z1, Int.add_mul, Int.add_mul, Int.one_mul, dl2]
  have zV' : zval b64 (val64 V) = 4835703278458516698824704 * (t * U) - d * U := by rw [zV, Int.sub_mul, dl2]
  have hdU : 0 < d * U := Int.mul_pos hd hU
  have yH : zval b64 (val64 (dsub T (dmul 4472406533629990549 T))) ≤ zval b64 (val64 H) := y1 (by omega)
  have yL : zval b64 (val64 L) ≤ zval b64 (val64 (dsub T (dmul 4472406533629990549 T))) := y0 (by omega)
  have yV : zval b64 (val64 (dsub T (dmul 4472406533629990549 T))) ≤ zval b64 (val64 V) := yV (by omega)
  have fY : DFin (dsub T (dmul 4472406533629990549 T)) := finBet nY hL hH yL yH
  have nR := (notNaN_iff _).mp (dsub_out fY.notNaN finN.1)
  have r1 := (subB fY finN.1 hH).1
  have r2 := (subB fY finN.1 hL).2
  have r3 := (subB fY finN.1 fV).1
  rw [finN.2] at r1 r2 r3
  have rH : zval b64 (val64 (least T)) ≤ zval b64 (val64 H) := r1 (by omega)
  have rV : zval b64 (val64 (least T)) ≤ zval b64 (val64 V) := r3 (by omega)
  have rL : zval b64 (val64 L) ≤ zval b64 (val64 (least T)) := by
    by_cases h : t - s - 1 ≤ 0
    · have ht1 : t = 1 := by omega
      have hs1 : s = 0 := by omega
      subst ht1 hs1
      obtain ⟨V2, f2, z2⟩ := repU 1 81 (by decide) (by decide)
      have e81 : ((2 ^ 81 : Nat) : Int) = 2417851639229258349412352 := by decide
      rw [e81] at z2
      have a3 := (prodB hT (by rw [zT, one64U, e82]) f2 z2).1 (by omega)
      have y2 := (subB hT fP f2).2 (by omega)
      have hU2 : 4503599627370496 ≤ U := by unfold U; decide +kernel
      exact r2 (by omega)
    · refine Int.le_trans yL (absorb fY (Int.le_trans ?_ yL))
      have e74 : ((2 ^ 1074 : Nat) : Int) = 4835703278458516698824704 * U := by have := one64U; rw [one64c, e82] at this; exact this
      rw [e74, zL]
      have h2 : 1 ≤ t - s - 1 := by omega
      have h3 := Int.mul_le_mul_of_nonneg_right h2 (Int.le_of_lt (show (0 : Int) < 4835703278458516698824704 * U by omega))
      rw [Int.one_mul] at h3
      exact h3
  exact ⟨fP, fY, finBet nR hL hH rL rH, by omega, rH, rL⟩
/-- a scale: 2^30 g is worth 1 -/
theorem repG {g : Int} (e : Nat) (hg : g = ((2 ^ e : Nat) : Int)) (he : e ≤ 1100) (n : Int) (k : Nat) (hk : k ≤ 30) (hn : n.natAbs < 2 ^ 53) {N : Int} (hN : N = n * ((2 ^ k : Nat) : Int)) : ∃ V : UInt64, DFin V ∧ zval b64 (val64 V) = N * g := by
  obtain ⟨V, h1, h2⟩ := rep n hn (k + e) (by omega)
  exact ⟨V, h1, by rw [h2, hN, hg, p3]⟩
theorem prodG {T V : UInt64} {g t N : Int} (hg : 0 ≤ g) (hT : DFin T) (zT : zval b64 (val64 T) = t * 1073741824 * g) (hV : DFin V) (zV : zval b64 (val64 V) = N * g) :
    (4835703278458517 * t ≤ N * 4503599627370496 → zval b64 (val64 (dmul 4472406533629990549 T)) ≤ zval b64 (val64 V)) ∧ (N * 4503599627370496 ≤ 4835703278458517 * t → zval b64 (val64 V) ≤ zval b64 (val64 (dmul 4472406533629990549 T))) := by
  have b := mulB finC.1 hT hV
  have e82 : ((2 ^ 82 : Nat) : Int) = 4835703278458516698824704 := by decide
  have c1 := cancel (4835703278458517 * t * 1073741824) 1 (N * 4835703278458516698824704) U g hg (Int.le_of_lt U_pos)
  rw [finC.2, zT, zV, one64U, e82] at b
  rw [zV]
  have f1 : 4835703278458517 * U * (t * 1073741824 * g) = 4835703278458517 * t * 1073741824 * U * (1 * g) := by
    rw [Int.one_mul]; generalize U = u; grind
  have f2 : N * g * (4835703278458516698824704 * U) = N * 4835703278458516698824704 * U * g := by
    generalize U = u; grind
  rw [f1, f2] at b
  exact ⟨fun h => b.1 (c1.1 (by omega)), fun h => b.2 (c1.2 (by omega))⟩
theorem two_law {g : Int} (e : Nat) (hg : g = ((2 ^ e : Nat) : Int)) (he : e ≤ 1100) {fl t r : Int} {T R : UInt64} (hfl : (fl = 0 ∧ 4503599627370496 ≤ g) ∨ (fl = 1 ∧ 1073741824 * g = 4503599627370496)) (hT : DFin T) (zT : zval b64 (val64 T) = t * 1073741824 * g) (hR : DFin R) (zR : zval b64 (val64 R) = r * 1073741824 * g) (ht : 0 ≤ t) (ht2 : t < 2147483648) (hr : 0 ≤ r) (hr2 : r < 2147484000) :
    DFin (dmul 4472406533629990549 T) ∧ DFin (dsub T (dmul 4472406533629990549 T)) ∧ DFin (least T) ∧ (t ≤ r → zval b64 (val64 (least T)) ≤ zval b64 (val64 R)) ∧ (r < t → t / 65536 + 16 ≤ (r - t + fl) * 1000000000 + t → zval b64 (val64 (least T)) ≤ zval b64 (val64 R)) ∧ (r < t → (r - t + fl) * 1000000000 + t ≤ -(t / 65536 + 16) → zval b64 (val64 R) < zval b64 (val64 (least T))) := by
  have g0 : 0 < g := by rw [hg]; exact Int.natCast_pos.mpr (Nat.two_pow_pos _)
  have g0' := Int.le_of_lt g0
  have fl01 : 0 ≤ fl ∧ fl ≤ 1 := by omega
  have p0 := (prodG g0' hT zT fin0.1 (N := 0) (by rw [fin0.2, Int.zero_mul])).2 (by omega)
  have p1 := (prodG g0' hT zT hT (N := t * 1073741824) zT).1 (by omega)
  have nP := (notNaN_iff _).mp (dmul_out finC.1 hT)
  have fP : DFin (dmul 4472406533629990549 T) := finBet nP fin0.1 hT p0 p1
  have nY := (notNaN_iff _).mp (dsub_out hT.notNaN fP)
  rw [fin0.2] at p0
  have y0 := (subB hT fP fin0.1).2 (by rw [fin0.2]; omega)
  have y1 := (subB hT fP hT).1 (by omega)
  have fY : DFin (dsub T (dmul 4472406533629990549 T)) := finBet nY fin0.1 hT y0 y1
  rw [fin0.2] at y0
  have nR := (notNaN_iff _).mp (dsub_out fY.notNaN finN.1)
  have hneg := neg finN.1
  have e52 : ((2 ^ 52 : Nat) : Int) = 4503599627370496 := by decide
  have r0 := (subB fY finN.1 hneg.1).2 (by rw [hneg.2]; omega)
  have r1 := (subB fY finN.1 hT).1 (by rw [finN.2]; omega)
  have fR : DFin (least T) := finBet nR hneg.1 hT r0 r1
  have zT' : zval b64 (val64 T) = 1073741824 * (t * g) := by rw [zT, dl2]
  have zR' : zval b64 (val64 R) = 1073741824 * (r * g) := by rw [zR, dl2]
  refine ⟨fP, fY, fR, fun h => ?_, fun h1 h2 => ?_, fun h1 h2 => ?_⟩
  · have := Int.mul_le_mul_of_nonneg_right h g0'
    exact Int.le_trans r1 (by omega)
  · obtain ⟨V, fV, zV⟩ := repG e hg he (t - r - fl) 30 (by decide) (by omega) (N := (t - r - fl) * 1073741824) rfl
    obtain ⟨W, fW, zW⟩ := repG e hg he (r + fl) 30 (by decide) (by omega) (N := (r + fl) * 1073741824) rfl
    have q1 := (prodG g0' hT zT fV zV).2 (by omega)
    have zV' : zval b64 (val64 V) = 1073741824 * (t * g) - 1073741824 * (r * g) - 1073741824 * (fl * g) := by rw [zV, dl2, Int.sub_mul, Int.sub_mul, Int.mul_sub, Int.mul_sub]
    have zW' : zval b64 (val64 W) = 1073741824 * (r * g) + 1073741824 * (fl * g) := by rw [zW, dl2, Int.add_mul, Int.mul_add]
    have q2 := (subB hT fP fW).1 (by omega)
    refine (subB fY finN.1 hR).1 ?_
    rw [finN.2, e52]
    rcases hfl with ⟨rfl, hb⟩ | ⟨rfl, hb⟩ <;> omega
  · -- the step: 2^k
    obtain ⟨k, a, hk, hk1, ha, b1, b2, b3, hm⟩ : ∃ (k : Nat) (a : Int), 1 ≤ k ∧ k ≤ 30 ∧ a = ((2 ^ k : Nat) : Int) ∧ (∃ n : Int, n.natAbs < 2 ^ 53 ∧ (t - r - fl) * 1073741824 - a = n * ((2 ^ k : Nat) : Int)) ∧ (∃ n : Int, n.natAbs < 2 ^ 53 ∧ (r + fl) * 1073741824 + a = n * ((2 ^ k : Nat) : Int)) ∧ (∃ n : Int, ∃ a' : Int, 2 * a' = a ∧ 1 ≤ a' ∧ n.natAbs < 2 ^ 53 ∧ r * 1073741824 + a' = n * ((2 ^ (k - 1) : Nat) : Int)) ∧ 4835703278458517 * t ≤ ((t - r - fl) * 1073741824 - a) * 4503599627370496 := by
      by_cases c1 : t < 16777216
      · exact ⟨3, 8, by decide, by decide, by decide, ⟨(t - r - fl) * 134217728 - 1, by omega, by show _ = _ * (8 : Int); omega⟩, ⟨(r + fl) * 134217728 + 1, by omega, by show _ = _ * (8 : Int); omega⟩, ⟨r * 268435456 + 1, 4, by decide, by decide, by omega, by show _ = _ * (4 : Int); omega⟩, by omega⟩
      · by_cases c2 : t < 67108864
        · exact ⟨8, 256, by decide, by decide, by decide, ⟨(t - r - fl) * 4194304 - 1, by omega, by show _ = _ * (256 : Int); omega⟩, ⟨(r + fl) * 4194304 + 1, by omega, by show _ = _ * (256 : Int); omega⟩, ⟨r * 8388608 + 1, 128, by decide, by decide, by omega, by show _ = _ * (128 : Int); omega⟩, by omega⟩
        · exact ⟨10, 1024, by decide, by decide, by decide, ⟨(t - r - fl) * 1048576 - 1, by omega, by show _ = _ * (1024 : Int); omega⟩, ⟨(r + fl) * 1048576 + 1, by omega, by show _ = _ * (1024 : Int); omega⟩, ⟨r * 2097152 + 1, 512, by decide, by decide, by omega, by show _ = _ * (512 : Int); omega⟩, by omega⟩
    obtain ⟨n1, hn1, en1⟩ := b1
    obtain ⟨n2, hn2, en2⟩ := b2
    obtain ⟨n3, a', ha', ha1, hn3, en3⟩ := b3
    obtain ⟨V, fV, zV⟩ := repG e hg he n1 k hk1 hn1 en1
    obtain ⟨W, fW, zW⟩ := repG e hg he n2 k hk1 hn2 en2
    obtain ⟨Y, fY', zY⟩ := repG e hg he n3 (k - 1) (by omega) hn3 en3
    have q1 := (prodG g0' hT zT fV zV).1 hm
    have zV' : zval b64 (val64 V) = 1073741824 * (t * g) - 1073741824 * (r * g) - 1073741824 * (fl * g) - a * g := by rw [zV, Int.sub_mul, dl2, Int.sub_mul, Int.sub_mul, Int.mul_sub, Int.mul_sub]
    have zW' : zval b64 (val64 W) = 1073741824 * (r * g) + 1073741824 * (fl * g) + a * g := by rw [zW, Int.add_mul, dl2, Int.add_mul, Int.mul_add]
    have zY' : zval b64 (val64 Y) = 1073741824 * (r * g) + a' * g := by rw [zY, Int.add_mul, dl2]
    have hag : a * g = 2 * (a' * g) := by rw [← ha', Int.mul_assoc]
    have hag1 : g ≤ a' * g := by have := Int.mul_le_mul_of_nonneg_right ha1 g0'; rw [Int.one_mul] at this; exact this
    have q2 := (subB hT fP fW).2 (by omega)
    have q3 := (subB fY finN.1 fY').2 (by
      rw [finN.2, e52]
      rcases hfl with ⟨rfl, hb⟩ | ⟨rfl, hb⟩ <;> omega)
    exact Int.lt_of_lt_of_le (by omega) q3
end Own
namespace Jvm.Pilot.@@N@@
open Jvm Jvm.ClassFile Sem Op Lib Jvm.Free Jvm.Stand Jvm.LawKit Jvm.RoadKit Bundle Jvm.Pilot.@@N@@.Jvm.D
theorem own_lt {a b : UInt64} (ha : FP.Core.DFin a) (hb : FP.Core.DFin b) (h : FP.Core.zval FP.Core.b64 (FP.Core.val64 a) < FP.Core.zval FP.Core.b64 (FP.Core.val64 b)) (o : Jvm.ClassFile.CmpOp) : cmpValue (FP.dcmp a b) o < (0 : Int32) := by
  rw [show FP.dcmp a b = some .lt from FP.Core.dcmp_lt.mpr ⟨ha.ne_nan, hb.ne_nan, h⟩]
  cases o <;> decide
theorem own_le {a b : UInt64} (ha : FP.Core.DFin a) (hb : FP.Core.DFin b) (h : FP.Core.zval FP.Core.b64 (FP.Core.val64 a) ≤ FP.Core.zval FP.Core.b64 (FP.Core.val64 b)) (o : Jvm.ClassFile.CmpOp) : ¬ (0 : Int32) < cmpValue (FP.dcmp a b) o := by
  rcases FP.Core.dcmp_le.mpr ⟨ha.ne_nan, hb.ne_nan, h⟩ with q | q
  · rw [show FP.dcmp a b = some .lt from q]; cases o <;> decide
  · rw [show FP.dcmp a b = some .eq from q]; cases o <;> decide
theorem own_ge {a b : UInt64} (ha : FP.Core.DFin a) (hb : FP.Core.DFin b) (h : FP.Core.zval FP.Core.b64 (FP.Core.val64 b) ≤ FP.Core.zval FP.Core.b64 (FP.Core.val64 a)) (o : Jvm.ClassFile.CmpOp) : ¬ cmpValue (FP.dcmp a b) o < (0 : Int32) := by
  rcases FP.Core.dcmp_ge.mpr ⟨ha.ne_nan, hb.ne_nan, h⟩ with q | q
  · rw [show FP.dcmp a b = some .gt from q]; cases o <;> decide
  · rw [show FP.dcmp a b = some .eq from q]; cases o <;> decide
theorem own_div {t : Int32} (h0 : 0 ≤ t.toInt) : (t / (1000000000 : Int32)).toInt = t.toInt / 1000000000 := by
  rw [Int32.toInt_div_of_ne_right t _ (by decide), Int.tdiv_eq_ediv_of_nonneg h0]; rfl
theorem own_f0 : FP.Core.DFin (FP.Core.dmul 4472406533629990549 (FP.Core.i2d 0)) ∧ FP.Core.DFin (FP.Core.dsub (FP.Core.i2d 0) (FP.Core.dmul 4472406533629990549 (FP.Core.i2d 0))) ∧ FP.Core.DFin (Own.least (FP.Core.i2d 0)) := ⟨(FP.Core.fin_bits _).mpr (by decide +kernel), (FP.Core.fin_bits _).mpr (by decide +kernel), (FP.Core.fin_bits _).mpr (by decide +kernel)⟩
theorem own_z0 : cmpValue (FP.dcmp (Own.least (FP.i2d 0)) 9227875636482146304) .l = 0 := by decide +kernel
theorem own_core {t : Int32} (h1 : 1 ≤ t.toInt) {s : Int64} (es : s = (t / (1000000000 : Int32)).toInt64) : FP.Core.DFin (FP.Core.dmul 4472406533629990549 (FP.Core.i2d t)) ∧ FP.Core.DFin (FP.Core.dsub (FP.Core.i2d t) (FP.Core.dmul 4472406533629990549 (FP.Core.i2d t))) ∧ FP.Core.DFin (Own.least (FP.Core.i2d t)) ∧ FP.Core.zval FP.Core.b64 (FP.Core.val64 (Own.least (FP.Core.i2d t))) < FP.Core.zval FP.Core.b64 (FP.Core.val64 (FP.Core.i2d t)) ∧ FP.Core.zval FP.Core.b64 (FP.Core.val64 (Own.least (FP.Core.i2d t))) ≤ FP.Core.zval FP.Core.b64 (FP.Core.val64 (FP.Core.l2d (t.toInt64 - s))) ∧ FP.Core.zval FP.Core.b64 (FP.Core.val64 (FP.Core.l2d (t.toInt64 - s - 1))) ≤ FP.Core.zval FP.Core.b64 (FP.Core.val64 (Own.least (FP.Core.i2d t))) := by
  have hd := own_div (t := t) (by omega)
  have hs : s.toInt = t.toInt / 1000000000 := by rw [es, c_i2l]; exact hd
  have ht := c_i2l t
  have r := rng32 t
  have h2 := c_lsub t.toInt64 s
  have h3 := c_lsub (t.toInt64 - s) 1
  have r2 := rng64 (t.toInt64 - s)
  have r3 := rng64 (t.toInt64 - s - 1)
  rw [show (1 : Int64).toInt = 1 from by decide] at h3
  have e2 : (t.toInt64 - s).toInt = t.toInt - t.toInt / 1000000000 := by omega
  have e3 : (t.toInt64 - s - 1).toInt = t.toInt - t.toInt / 1000000000 - 1 := by omega
  exact Own.one_law (t := t.toInt) (s := t.toInt / 1000000000) (FP.Core.i2d_fin t) (FP.Core.DInt_zval (FP.Core.i2d_int t)) h1 (by omega) (by omega) (by omega) (FP.Core.l2d_fin _) (by rw [← e2]; exact FP.Core.DInt_zval (FP.Core.l2d_int (by omega))) (FP.Core.l2d_fin _) (by rw [← e3]; exact FP.Core.DInt_zval (FP.Core.l2d_int (by omega)))
theorem own_fin {t : Int32} (h0 : 0 ≤ t.toInt) : FP.Core.DFin (FP.Core.dmul 4472406533629990549 (FP.Core.i2d t)) ∧ FP.Core.DFin (FP.Core.dsub (FP.Core.i2d t) (FP.Core.dmul 4472406533629990549 (FP.Core.i2d t))) ∧ FP.Core.DFin (Own.least (FP.Core.i2d t)) := by
  by_cases h : t = 0
  · rw [h]; exact own_f0
  · have h1 : t.toInt ≠ 0 := fun e => h (Int32.toInt_inj.mp (by rw [e]; decide))
    have c := own_core (t := t) (by omega) rfl
    exact ⟨c.1, c.2.1, c.2.2.1⟩

theorem own_nn {x : UInt64} (h : FP.Core.DFin x) : Jvm.Free.Fl.NoNaN64 x := Jvm.Free.Fl.noNaN64_no.mpr h.notNaN
theorem own_t {p0 t : Int32} (e : t = (p0 &&& (2147483647 : Int32))) : 0 ≤ t.toInt := by
  have h := c_mask p0 (2147483647 : Int32) 31 (by decide) (by decide)
  rw [e]; omega
theorem own_one {t : Int32} (h0 : 0 ≤ t.toInt) (h : ¬ t = (0 : Int32)) : 1 ≤ t.toInt := by
  have h1 : t.toInt ≠ 0 := fun e => h (Int32.toInt_inj.mp (by rw [e]; decide))
  omega
theorem d1_0 : decode prog_35_method_5_code 0 = .ok (.dload_n 0, 1) := by decide +kernel
theorem d1_1 : decode prog_35_method_5_code 1 = .ok (.ldc2_w 75, 3) := by decide +kernel
theorem d1_4 : decode prog_35_method_5_code 4 = .ok (.dload_n 0, 1) := by decide +kernel
theorem d1_5 : decode prog_35_method_5_code 5 = .ok (.dmul, 1) := by decide +kernel
theorem d1_6 : decode prog_35_method_5_code 6 = .ok (.dsub, 1) := by decide +kernel
theorem d1_7 : decode prog_35_method_5_code 7 = .ok (.ldc2_w 79, 3) := by decide +kernel
theorem d1_10 : decode prog_35_method_5_code 10 = .ok (.dsub, 1) := by decide +kernel
theorem d1_11 : decode prog_35_method_5_code 11 = .ok (.dreturn, 1) := by decide +kernel
theorem pn_1 : plainName "com/example/lotwise/lotwise/Relaxation" = true := by first | (simp [plainName, overriddenIn]; done) | decide +kernel
theorem ef_1 (m : MethodId) (r0 : UInt64)  : entryFrame m #[(.double r0)] 2 = mkF m 0 #[.val (.double r0), .second] [] := by first | (simp [entryFrame, mkF, argsToLocals, Value.category]; done) | rfl
def Q1 (Z : State) (r0 : UInt64) (h0 : Heap) (n0 : Nat) (v : Option Value) (h : Heap) (L : List Loc) : Prop := v = some (.double (Own.least r0)) ∧ Fr n0 L ∧ h = h0
set_option maxRecDepth 65536 in
set_option maxHeartbeats 40000000 in
theorem rm1 (l : Launch) (Z : State) (a0 : Array Value) (hw : ∀ d ∈ tables_1, d.before a0 Z = true) (ws : List Jvm.Cond) (r0 : UInt64) (h0 : Heap) (n0 : Nat) (Z0 : n0 ≤ h0.size) (f1 : FP.Core.DFin (FP.Core.dmul 4472406533629990549 r0)) (f2 : FP.Core.DFin (FP.Core.dsub r0 (FP.Core.dmul 4472406533629990549 r0))) (f3 : FP.Core.DFin (Own.least r0)) :
    MetFree l (⟨"com/example/lotwise/lotwise/Relaxation", "leastReaching", "(D)D"⟩ : MethodName) (head1 (Jvm.Cond.code (⟨"com/example/lotwise/lotwise/Relaxation", "leastReaching", "(D)D"⟩ : MethodName) prog_35_method_5_code 2 (some .double) :: ws) ({ frames := 0, cells := 0, slots := 0, locals := 0 } : Room)) (fun a U => a = #[(.double r0)] ∧ Z.Warmed39 U.vm ∧ U.heap = h0) (fun _ _ _ _ _ => True) (fun _ U o U' => ∃ v L, o = .returned v ∧ Q1 Z r0 h0 n0 v U'.heap L ∧ FrameEnd U o U' L ({ frames := 0, cells := 0, slots := 0, locals := 0 } : Room).cells ({ frames := 0, cells := 0, slots := 0, locals := 0 } : Room).slots) := by
  refine MetFree.of_bodySF (plainFor_of_name pn_1) hisR ?_
  intro p e s m args below meth c s₁ Bd hml0 hP hK
  obtain ⟨rfl, hZ, hh⟩ := hP
  have hx := Bd.exec
  have hby := Bd.bytes
  have hml : c.maxLocals = 2 := hml0
  have hown : s.vm.findClass "com/example/lotwise/lotwise/Relaxation" = some m.cls := findClass_of_methodNamed Bd.named
  have hnm := (name_of_methodNamed Bd.named Bd.method).1
  have X0 : Stand p l e ({ frames := 0, cells := 0, slots := 0, locals := 0 } : Room) s m #[(.double r0)] below meth c s₁ [] 0 0 := Stand.of_body Bd
  have e0 : s₁.heap = h0 := by rw [← hh, Bd.state]; rfl
  have N0 := Fr.nil n0
  have pre0 : ∀ t, Steps p.tables e below (s₁.setTop (mkF m 0 #[.val (.double r0), .second] [])) t → Steps p.tables e below (s₁.setTop (entryFrame m #[(.double r0)] 2)) t := fun t k => castTop (ef_1 m r0) k
  show Done p e below _ _
  refine Done.of ?_ pre0
  obtain ⟨fs, hr, hrun, hended, hW, hsame⟩ := X0.leave (v := some (.double (FP.dsub (FP.dsub r0 (FP.dmul (4472406533629990549 : UInt64) r0)) (4503599627370496 : UInt64)))) (fun h => by rw [Bd.returns] at h; cases h)
  refine ⟨_, _, ?_, hrun, hended, _, _, rfl, ?_, ⟨_, rfl⟩, hW, hsame.mono (by decide) (by decide)⟩
  · show Steps p.tables e below (s₁.setTop (mkF m 0 #[.val (.double r0), .second] [])) _
    refine XS.dloadN X0.here hx rfl (hb hby d1_0) rfl ?_
    show Steps p.tables e below (s₁.setTop (mkF m 1 #[.val (.double r0), .second] [(.double r0)])) _
    refine X0.ldc2DoubleC hx hown (mvT hZ (hw _ (List.mem_of_getElem? (i := 5) rfl))) (g := (mkF m 1 #[.val (.double r0), .second] [(.double r0)])) rfl (hb hby d1_1) _ ?_
    show Steps p.tables e below (s₁.setTop (mkF m 4 #[.val (.double r0), .second] [(.double (4472406533629990549 : UInt64)), (.double r0)])) _
    refine XS.dloadN X0.here hx rfl (hb hby d1_4) rfl ?_
    show Steps p.tables e below (s₁.setTop (mkF m 5 #[.val (.double r0), .second] [(.double r0), (.double (4472406533629990549 : UInt64)), (.double r0)])) _
    refine XS.dmulS X0.here hx rfl (hb hby d1_5) rfl (own_nn f1) rfl ?_
    show Steps p.tables e below (s₁.setTop (mkF m 6 #[.val (.double r0), .second] [(.double (FP.dmul (4472406533629990549 : UInt64) r0)), (.double r0)])) _
    refine XS.dsubS X0.here hx rfl (hb hby d1_6) rfl (own_nn f2) rfl ?_
    show Steps p.tables e below (s₁.setTop (mkF m 7 #[.val (.double r0), .second] [(.double (FP.dsub r0 (FP.dmul (4472406533629990549 : UInt64) r0)))])) _
    refine X0.ldc2DoubleC hx hown (mvT hZ (hw _ (List.mem_of_getElem? (i := 6) rfl))) (g := (mkF m 7 #[.val (.double r0), .second] [(.double (FP.dsub r0 (FP.dmul (4472406533629990549 : UInt64) r0)))])) rfl (hb hby d1_7) _ ?_
    show Steps p.tables e below (s₁.setTop (mkF m 10 #[.val (.double r0), .second] [(.double (4503599627370496 : UInt64)), (.double (FP.dsub r0 (FP.dmul (4472406533629990549 : UInt64) r0)))])) _
    refine XS.dsubS X0.here hx rfl (hb hby d1_10) rfl (own_nn f3) rfl ?_
    show Steps p.tables e below (s₁.setTop (mkF m 11 #[.val (.double r0), .second] [(.double (FP.dsub (FP.dsub r0 (FP.dmul (4472406533629990549 : UInt64) r0)) (4503599627370496 : UInt64)))])) _
    jvm_step X0.here [X0.here.top, hx, (hb hby d1_11), X0.method', Bd.returns, narrow]
    first | (intro acts; rw [hr _ acts rfl rfl rfl]) | rw [hr _ _ rfl rfl rfl]
    exact Steps.refl _
  · show Q1 Z r0  h0 n0 _ s₁.heap _
    rw [e0]
    refine ⟨?_, N0, rfl⟩
    rfl
theorem pn_0 : plainName "com/example/lotwise/lotwise/RelaxationLeastReachingPinLaw" = true := by first | (simp [plainName, overriddenIn]; done) | decide +kernel
theorem pd_0 : parseMethodDescriptor "(D)D" = some ⟨[.double], some .double⟩ := by decide +kernel
theorem ef_0 (m : MethodId) (p0 : Int32)  : entryFrame m #[(.int p0)] maxLocals = mkF m 0 #[.val (.int p0), .unset, .unset, .unset, .unset, .unset, .unset, .unset, .unset, .unset, .unset, .unset] [] := by first | (simp [entryFrame, mkF, argsToLocals, Value.category, maxLocals]; done) | rfl
def Q0 (Z : State) (p0 : Int32) (h0 : Heap) (n0 : Nat) (v : Option Value) (h : Heap) (L : List Loc) : Prop := v = some (.int 1) ∧ Fr n0 L
set_option maxRecDepth 65536 in
set_option maxHeartbeats 40000000 in
theorem rm0 (l : Launch) (Z : State) (a0 : Array Value) (hw : ∀ d ∈ tables_1, d.before a0 Z = true) (ws : List Jvm.Cond) (p0 : Int32) (h0 : Heap) (n0 : Nat) (Z0 : n0 ≤ h0.size) :
    MetFree l x (head1 (Jvm.Cond.code x code maxLocals ret :: ws) room_1) (fun a U => a = #[(.int p0)] ∧ Z.Warmed39 U.vm ∧ U.heap = h0) (fun _ _ _ _ _ => True) (fun _ U o U' => ∃ v L, o = .returned v ∧ Q0 Z p0 h0 n0 v U'.heap L ∧ FrameEnd U o U' L room_1.cells room_1.slots) := by
  refine MetFree.of_bodySF (plainFor_of_name pn_0) hisR ?_
  intro p e s m args below meth c s₁ Bd hml0 hP hK
  obtain ⟨rfl, hZ, hh⟩ := hP
  have hx := Bd.exec
  have hby := Bd.bytes
  have hml : c.maxLocals = 12 := hml0
  have hown : s.vm.findClass "com/example/lotwise/lotwise/RelaxationLeastReachingPinLaw" = some m.cls := findClass_of_methodNamed Bd.named
  have hnm := (name_of_methodNamed Bd.named Bd.method).1
  have X0 : Stand p l e room_1 s m #[(.int p0)] below meth c s₁ [] 0 0 := Stand.of_body Bd
  have e0 : s₁.heap = h0 := by rw [← hh, Bd.state]; rfl
  have N0 := Fr.nil n0
  have pre0 : ∀ t, Steps p.tables e below (s₁.setTop (mkF m 0 #[.val (.int p0), .unset, .unset, .unset, .unset, .unset, .unset, .unset, .unset, .unset, .unset, .unset] [])) t → Steps p.tables e below (s₁.setTop (entryFrame m #[(.int p0)] maxLocals)) t := fun t k => castTop (ef_0 m p0) k
  show Done p e below _ _
  refine Done.of ?_ pre0
  obtain ⟨v1, ev1⟩ : ∃ z : Int32, z = (p0 &&& (2147483647 : Int32)) := ⟨_, rfl⟩
  have HF := own_fin (own_t ev1)
  obtain ⟨_, _, ⟨T2, L2, k2, n2⟩, -, X2, ⟨Lc2, hQ2, l2, y2, z2⟩, st2⟩ := Jvm.LawKit.callS X0 hx (y := (⟨"com/example/lotwise/lotwise/Relaxation", "leastReaching", "(D)D"⟩ : MethodName)) hown (mvT hZ (hw _ (List.mem_of_getElem? (i := 1) rfl))) (mvT hZ (hw _ (List.mem_of_getElem? (i := 2) rfl))) (mvT hZ (hw _ (List.mem_of_getElem? (i := 3) rfl))) (mvT hZ (hw _ (List.mem_of_getElem? (i := 4) rfl))) (by decide) (backOf (W := 0) (rm1 l Z a0 hw [] (FP.i2d v1) h0 n0 Z0 HF.1 HF.2.1 HF.2.2) hZ (hw _ (List.mem_of_getElem? (i := 4) rfl)) (hw _ (List.mem_of_getElem? (i := 3) rfl)) (by decide) (by decide)) (g := (mkF m 9 #[.val (.int p0), .val (.int v1), .val (.double (FP.i2d v1)), .second, .unset, .unset, .unset, .unset, .unset, .unset, .unset, .unset] [(.double (FP.i2d v1))])) rfl (by rw [hml]; rfl) (argsL := [(.double (FP.i2d v1))]) (rest := []) (lenOf pd_0 rfl) rfl (by show 2 * 0 + _ ≤ _; exact Nat.le_of_eq rfl) (hb hby at_9) (fun _ _ => ⟨rfl, e0, (by decide : 0 + 0 ≤ _), (by decide : 0 + 0 ≤ _)⟩)
  dsimp only [Pt.U, Pt.locs, Pt.cells, Pt.slots] at X2 l2 y2 z2 st2 hQ2
  rw [l2, y2, z2] at X2
  obtain ⟨rfl, N2q, e2⟩ := hQ2
  have N2 := Fr.app N0 N2q
  have K3 : ∀ target, Steps p.tables e below (T2.setTop (mkF m 15 #[.val (.int p0), .val (.int v1), .val (.double (FP.i2d v1)), .second, .val (.double (Own.least (FP.i2d v1))), .second, .unset, .unset, .unset, .unset, .unset, .unset] [(.int v1)])) target → Steps p.tables e below (s₁.setTop (mkF m 0 #[.val (.int p0), .unset, .unset, .unset, .unset, .unset, .unset, .unset, .unset, .unset, .unset, .unset] [])) target := by
    intro target kt
    show Steps p.tables e below (s₁.setTop (mkF m 0 #[.val (.int p0), .unset, .unset, .unset, .unset, .unset, .unset, .unset, .unset, .unset, .unset, .unset] [])) _
    refine XS.iloadN X0.here hx rfl (hb hby at_0) rfl ?_
    show Steps p.tables e below (s₁.setTop (mkF m 1 #[.val (.int p0), .unset, .unset, .unset, .unset, .unset, .unset, .unset, .unset, .unset, .unset, .unset] [(.int p0)])) _
    refine X0.ldcInt hx hown (mvT hZ (hw _ (List.mem_of_getElem? (i := 0) rfl))) (g := (mkF m 1 #[.val (.int p0), .unset, .unset, .unset, .unset, .unset, .unset, .unset, .unset, .unset, .unset, .unset] [(.int p0)])) rfl (hb hby at_1) _ ?_
    show Steps p.tables e below (s₁.setTop (mkF m 3 #[.val (.int p0), .unset, .unset, .unset, .unset, .unset, .unset, .unset, .unset, .unset, .unset, .unset] [(.int (2147483647 : Int32)), (.int p0)])) _
    refine XS.iand X0.here hx rfl (hb hby at_3) rfl ?_
    show Steps p.tables e below (s₁.setTop (mkF m 4 #[.val (.int p0), .unset, .unset, .unset, .unset, .unset, .unset, .unset, .unset, .unset, .unset, .unset] [(.int (p0 &&& (2147483647 : Int32)))])) _
    rw [← ev1]
    show Steps p.tables e below (s₁.setTop (mkF m 4 #[.val (.int p0), .unset, .unset, .unset, .unset, .unset, .unset, .unset, .unset, .unset, .unset, .unset] [(.int v1)])) _
    refine XS.istoreN X0.here hx rfl (hb hby at_4) rfl (l' := #[.val (.int p0), .val (.int v1), .unset, .unset, .unset, .unset, .unset, .unset, .unset, .unset, .unset, .unset]) rfl ?_
    show Steps p.tables e below (s₁.setTop (mkF m 5 #[.val (.int p0), .val (.int v1), .unset, .unset, .unset, .unset, .unset, .unset, .unset, .unset, .unset, .unset] [])) _
    refine XS.iloadN X0.here hx rfl (hb hby at_5) rfl ?_
    show Steps p.tables e below (s₁.setTop (mkF m 6 #[.val (.int p0), .val (.int v1), .unset, .unset, .unset, .unset, .unset, .unset, .unset, .unset, .unset, .unset] [(.int v1)])) _
    refine XS.i2dS X0.here hx rfl (hb hby at_6) rfl rfl ?_
    show Steps p.tables e below (s₁.setTop (mkF m 7 #[.val (.int p0), .val (.int v1), .unset, .unset, .unset, .unset, .unset, .unset, .unset, .unset, .unset, .unset] [(.double (FP.i2d v1))])) _
    refine XS.dstoreN X0.here hx rfl (hb hby at_7) rfl (l' := #[.val (.int p0), .val (.int v1), .val (.double (FP.i2d v1)), .second, .unset, .unset, .unset, .unset, .unset, .unset, .unset, .unset]) rfl ?_
    show Steps p.tables e below (s₁.setTop (mkF m 8 #[.val (.int p0), .val (.int v1), .val (.double (FP.i2d v1)), .second, .unset, .unset, .unset, .unset, .unset, .unset, .unset, .unset] [])) _
    refine XS.dloadN X0.here hx rfl (hb hby at_8) rfl ?_
    show Steps p.tables e below (s₁.setTop (mkF m 9 #[.val (.int p0), .val (.int v1), .val (.double (FP.i2d v1)), .second, .unset, .unset, .unset, .unset, .unset, .unset, .unset, .unset] [(.double (FP.i2d v1))])) _
    refine st2 _ ?_
    show Steps p.tables e below (T2.setTop (mkF m 12 #[.val (.int p0), .val (.int v1), .val (.double (FP.i2d v1)), .second, .unset, .unset, .unset, .unset, .unset, .unset, .unset, .unset] [(.double (Own.least (FP.i2d v1)))])) _
    refine XS.dstore X2.here hx rfl (hb hby at_12) rfl (l' := #[.val (.int p0), .val (.int v1), .val (.double (FP.i2d v1)), .second, .val (.double (Own.least (FP.i2d v1))), .second, .unset, .unset, .unset, .unset, .unset, .unset]) rfl ?_
    show Steps p.tables e below (T2.setTop (mkF m 14 #[.val (.int p0), .val (.int v1), .val (.double (FP.i2d v1)), .second, .val (.double (Own.least (FP.i2d v1))), .second, .unset, .unset, .unset, .unset, .unset, .unset] [])) _
    refine XS.iloadN X2.here hx rfl (hb hby at_14) rfl ?_
    exact kt
  refine Done.of ?_ K3
  by_cases hc15_4 : v1 = (0 : Int32)
  · have K : ∀ target, Steps p.tables e below (T2.setTop (mkF m 18 #[.val (.int p0), .val (.int v1), .val (.double (FP.i2d v1)), .second, .val (.double (Own.least (FP.i2d v1))), .second, .unset, .unset, .unset, .unset, .unset, .unset] [])) target → Steps p.tables e below (T2.setTop (mkF m 15 #[.val (.int p0), .val (.int v1), .val (.double (FP.i2d v1)), .second, .val (.double (Own.least (FP.i2d v1))), .second, .unset, .unset, .unset, .unset, .unset, .unset] [(.int v1)])) target := by
      intro target kt
      refine XS.ifNo X2.here hx rfl (hb hby at_15) rfl ((if0 _ _).trans (teq hc15_4).2) ?_
      exact kt
    refine Done.of ?_ K
    have hd24_5 : (cmpValue (FP.dcmp (Own.least (FP.i2d v1)) (9227875636482146304 : UInt64)) .l) = (0 : Int32) := by rw [hc15_4]; exact own_z0
    obtain ⟨fs, hr, hrun, hended, hW, hsame⟩ := X2.leave (v := some (.int (1 : Int32))) (fun h => by rw [Bd.returns] at h; cases h)
    refine ⟨_, _, ?_, hrun, hended, _, _, rfl, ?_, ⟨_, rfl⟩, hW, hsame.mono (by decide) (by decide)⟩
    · show Steps p.tables e below (T2.setTop (mkF m 18 #[.val (.int p0), .val (.int v1), .val (.double (FP.i2d v1)), .second, .val (.double (Own.least (FP.i2d v1))), .second, .unset, .unset, .unset, .unset, .unset, .unset] [])) _
      refine XS.dload X2.here hx rfl (hb hby at_18) rfl ?_
      show Steps p.tables e below (T2.setTop (mkF m 20 #[.val (.int p0), .val (.int v1), .val (.double (FP.i2d v1)), .second, .val (.double (Own.least (FP.i2d v1))), .second, .unset, .unset, .unset, .unset, .unset, .unset] [(.double (Own.least (FP.i2d v1)))])) _
      refine X2.ldc2DoubleC hx hown (mvT hZ (hw _ (List.mem_of_getElem? (i := 7) rfl))) (g := (mkF m 20 #[.val (.int p0), .val (.int v1), .val (.double (FP.i2d v1)), .second, .val (.double (Own.least (FP.i2d v1))), .second, .unset, .unset, .unset, .unset, .unset, .unset] [(.double (Own.least (FP.i2d v1)))])) rfl (hb hby at_20) _ ?_
      show Steps p.tables e below (T2.setTop (mkF m 23 #[.val (.int p0), .val (.int v1), .val (.double (FP.i2d v1)), .second, .val (.double (Own.least (FP.i2d v1))), .second, .unset, .unset, .unset, .unset, .unset, .unset] [(.double (9227875636482146304 : UInt64)), (.double (Own.least (FP.i2d v1)))])) _
      refine XS.dcmpS X2.here hx rfl (hb hby at_23) rfl rfl ?_
      show Steps p.tables e below (T2.setTop (mkF m 24 #[.val (.int p0), .val (.int v1), .val (.double (FP.i2d v1)), .second, .val (.double (Own.least (FP.i2d v1))), .second, .unset, .unset, .unset, .unset, .unset, .unset] [(.int (cmpValue (FP.dcmp (Own.least (FP.i2d v1)) (9227875636482146304 : UInt64)) .l))])) _
      refine XS.ifNo X2.here hx rfl (hb hby at_24) rfl ((if0 _ _).trans (teq hd24_5).2) ?_
      show Steps p.tables e below (T2.setTop (mkF m 27 #[.val (.int p0), .val (.int v1), .val (.double (FP.i2d v1)), .second, .val (.double (Own.least (FP.i2d v1))), .second, .unset, .unset, .unset, .unset, .unset, .unset] [])) _
      refine XS.iconst X2.here hx rfl (hb hby at_27) ?_
      show Steps p.tables e below (T2.setTop (mkF m 28 #[.val (.int p0), .val (.int v1), .val (.double (FP.i2d v1)), .second, .val (.double (Own.least (FP.i2d v1))), .second, .unset, .unset, .unset, .unset, .unset, .unset] [(.int (1 : Int32))])) _
      refine XS.goto X2.here hx rfl (pc0 := 28) (pc' := 32) rfl (hb hby at_28) (by decide) (by decide) ?_
      show Steps p.tables e below (T2.setTop (mkF m 32 #[.val (.int p0), .val (.int v1), .val (.double (FP.i2d v1)), .second, .val (.double (Own.least (FP.i2d v1))), .second, .unset, .unset, .unset, .unset, .unset, .unset] [(.int (1 : Int32))])) _
      exact retN X2 hx (t := .boolean) Bd.returns (by simp) (hb hby at_32) hr
    · show Q0 Z p0  h0 n0 _ T2.heap _
      rw [e2]
      exact ⟨rfl, N2⟩
  · have K : ∀ target, Steps p.tables e below (T2.setTop (mkF m 33 #[.val (.int p0), .val (.int v1), .val (.double (FP.i2d v1)), .second, .val (.double (Own.least (FP.i2d v1))), .second, .unset, .unset, .unset, .unset, .unset, .unset] [])) target → Steps p.tables e below (T2.setTop (mkF m 15 #[.val (.int p0), .val (.int v1), .val (.double (FP.i2d v1)), .second, .val (.double (Own.least (FP.i2d v1))), .second, .unset, .unset, .unset, .unset, .unset, .unset] [(.int v1)])) target := by
      intro target kt
      refine XS.ifYes X2.here hx rfl (pc0 := 15) (pc' := 33) rfl (hb hby at_15) rfl ((if0 _ _).trans (feq hc15_4).2) (by decide) (by decide) ?_
      exact kt
    refine Done.of ?_ K
    have hnz36_6 : (1000000000 : Int32) ≠ (0 : Int32) := by decide
    obtain ⟨v7, ev7⟩ : ∃ z : Int64, z = ((v1 / (1000000000 : Int32)).toInt64) := ⟨_, rfl⟩
    have HM := own_core (own_one (own_t ev1) hc15_4) ev7
    have hd62_8 : (cmpValue (FP.dcmp (Own.least (FP.i2d v1)) (FP.i2d v1)) .g) < (0 : Int32) := by exact own_lt HM.2.2.1 (FP.Core.i2d_fin _) HM.2.2.2.1 _
    have hd70_9 : ¬ ((0 : Int32) < (cmpValue (FP.dcmp (Own.least (FP.i2d v1)) (FP.l2d ((v1.toInt64) - v7))) .g)) := by exact own_le HM.2.2.1 (FP.Core.l2d_fin _) HM.2.2.2.2.1 _
    have hd78_10 : ¬ ((cmpValue (FP.dcmp (Own.least (FP.i2d v1)) (FP.l2d (((v1.toInt64) - v7) - (1 : Int64)))) .l) < (0 : Int32)) := by exact own_ge HM.2.2.1 (FP.Core.l2d_fin _) HM.2.2.2.2.2 _
    obtain ⟨fs, hr, hrun, hended, hW, hsame⟩ := X2.leave (v := some (.int (1 : Int32))) (fun h => by rw [Bd.returns] at h; cases h)
    refine ⟨_, _, ?_, hrun, hended, _, _, rfl, ?_, ⟨_, rfl⟩, hW, hsame.mono (by decide) (by decide)⟩
    · show Steps p.tables e below (T2.setTop (mkF m 33 #[.val (.int p0), .val (.int v1), .val (.double (FP.i2d v1)), .second, .val (.double (Own.least (FP.i2d v1))), .second, .unset, .unset, .unset, .unset, .unset, .unset] [])) _
      refine XS.iloadN X2.here hx rfl (hb hby at_33) rfl ?_
      show Steps p.tables e below (T2.setTop (mkF m 34 #[.val (.int p0), .val (.int v1), .val (.double (FP.i2d v1)), .second, .val (.double (Own.least (FP.i2d v1))), .second, .unset, .unset, .unset, .unset, .unset, .unset] [(.int v1)])) _
      refine X2.ldcInt hx hown (mvT hZ (hw _ (List.mem_of_getElem? (i := 8) rfl))) (g := (mkF m 34 #[.val (.int p0), .val (.int v1), .val (.double (FP.i2d v1)), .second, .val (.double (Own.least (FP.i2d v1))), .second, .unset, .unset, .unset, .unset, .unset, .unset] [(.int v1)])) rfl (hb hby at_34) _ ?_
      show Steps p.tables e below (T2.setTop (mkF m 36 #[.val (.int p0), .val (.int v1), .val (.double (FP.i2d v1)), .second, .val (.double (Own.least (FP.i2d v1))), .second, .unset, .unset, .unset, .unset, .unset, .unset] [(.int (1000000000 : Int32)), (.int v1)])) _
      refine XS.idiv X2.here hx rfl (hb hby at_36) rfl hnz36_6 ?_
      show Steps p.tables e below (T2.setTop (mkF m 37 #[.val (.int p0), .val (.int v1), .val (.double (FP.i2d v1)), .second, .val (.double (Own.least (FP.i2d v1))), .second, .unset, .unset, .unset, .unset, .unset, .unset] [(.int (v1 / (1000000000 : Int32)))])) _
      refine XS.i2l X2.here hx rfl (hb hby at_37) rfl ?_
      show Steps p.tables e below (T2.setTop (mkF m 38 #[.val (.int p0), .val (.int v1), .val (.double (FP.i2d v1)), .second, .val (.double (Own.least (FP.i2d v1))), .second, .unset, .unset, .unset, .unset, .unset, .unset] [(.long ((v1 / (1000000000 : Int32)).toInt64))])) _
      rw [← ev7]
      show Steps p.tables e below (T2.setTop (mkF m 38 #[.val (.int p0), .val (.int v1), .val (.double (FP.i2d v1)), .second, .val (.double (Own.least (FP.i2d v1))), .second, .unset, .unset, .unset, .unset, .unset, .unset] [(.long v7)])) _
      refine XS.lstore X2.here hx rfl (hb hby at_38) rfl (l' := #[.val (.int p0), .val (.int v1), .val (.double (FP.i2d v1)), .second, .val (.double (Own.least (FP.i2d v1))), .second, .val (.long v7), .second, .unset, .unset, .unset, .unset]) rfl ?_
      show Steps p.tables e below (T2.setTop (mkF m 40 #[.val (.int p0), .val (.int v1), .val (.double (FP.i2d v1)), .second, .val (.double (Own.least (FP.i2d v1))), .second, .val (.long v7), .second, .unset, .unset, .unset, .unset] [])) _
      refine XS.iloadN X2.here hx rfl (hb hby at_40) rfl ?_
      show Steps p.tables e below (T2.setTop (mkF m 41 #[.val (.int p0), .val (.int v1), .val (.double (FP.i2d v1)), .second, .val (.double (Own.least (FP.i2d v1))), .second, .val (.long v7), .second, .unset, .unset, .unset, .unset] [(.int v1)])) _
      refine XS.i2l X2.here hx rfl (hb hby at_41) rfl ?_
      show Steps p.tables e below (T2.setTop (mkF m 42 #[.val (.int p0), .val (.int v1), .val (.double (FP.i2d v1)), .second, .val (.double (Own.least (FP.i2d v1))), .second, .val (.long v7), .second, .unset, .unset, .unset, .unset] [(.long (v1.toInt64))])) _
      refine XS.lload X2.here hx rfl (hb hby at_42) rfl ?_
      show Steps p.tables e below (T2.setTop (mkF m 44 #[.val (.int p0), .val (.int v1), .val (.double (FP.i2d v1)), .second, .val (.double (Own.least (FP.i2d v1))), .second, .val (.long v7), .second, .unset, .unset, .unset, .unset] [(.long v7), (.long (v1.toInt64))])) _
      refine XS.lsub X2.here hx rfl (hb hby at_44) rfl ?_
      show Steps p.tables e below (T2.setTop (mkF m 45 #[.val (.int p0), .val (.int v1), .val (.double (FP.i2d v1)), .second, .val (.double (Own.least (FP.i2d v1))), .second, .val (.long v7), .second, .unset, .unset, .unset, .unset] [(.long ((v1.toInt64) - v7))])) _
      refine XS.l2dS X2.here hx rfl (hb hby at_45) rfl rfl ?_
      show Steps p.tables e below (T2.setTop (mkF m 46 #[.val (.int p0), .val (.int v1), .val (.double (FP.i2d v1)), .second, .val (.double (Own.least (FP.i2d v1))), .second, .val (.long v7), .second, .unset, .unset, .unset, .unset] [(.double (FP.l2d ((v1.toInt64) - v7)))])) _
      refine XS.dstore X2.here hx rfl (hb hby at_46) rfl (l' := #[.val (.int p0), .val (.int v1), .val (.double (FP.i2d v1)), .second, .val (.double (Own.least (FP.i2d v1))), .second, .val (.long v7), .second, .val (.double (FP.l2d ((v1.toInt64) - v7))), .second, .unset, .unset]) rfl ?_
      show Steps p.tables e below (T2.setTop (mkF m 48 #[.val (.int p0), .val (.int v1), .val (.double (FP.i2d v1)), .second, .val (.double (Own.least (FP.i2d v1))), .second, .val (.long v7), .second, .val (.double (FP.l2d ((v1.toInt64) - v7))), .second, .unset, .unset] [])) _
      refine XS.iloadN X2.here hx rfl (hb hby at_48) rfl ?_
      show Steps p.tables e below (T2.setTop (mkF m 49 #[.val (.int p0), .val (.int v1), .val (.double (FP.i2d v1)), .second, .val (.double (Own.least (FP.i2d v1))), .second, .val (.long v7), .second, .val (.double (FP.l2d ((v1.toInt64) - v7))), .second, .unset, .unset] [(.int v1)])) _
      refine XS.i2l X2.here hx rfl (hb hby at_49) rfl ?_
      show Steps p.tables e below (T2.setTop (mkF m 50 #[.val (.int p0), .val (.int v1), .val (.double (FP.i2d v1)), .second, .val (.double (Own.least (FP.i2d v1))), .second, .val (.long v7), .second, .val (.double (FP.l2d ((v1.toInt64) - v7))), .second, .unset, .unset] [(.long (v1.toInt64))])) _
      refine XS.lload X2.here hx rfl (hb hby at_50) rfl ?_
      show Steps p.tables e below (T2.setTop (mkF m 52 #[.val (.int p0), .val (.int v1), .val (.double (FP.i2d v1)), .second, .val (.double (Own.least (FP.i2d v1))), .second, .val (.long v7), .second, .val (.double (FP.l2d ((v1.toInt64) - v7))), .second, .unset, .unset] [(.long v7), (.long (v1.toInt64))])) _
      refine XS.lsub X2.here hx rfl (hb hby at_52) rfl ?_
      show Steps p.tables e below (T2.setTop (mkF m 53 #[.val (.int p0), .val (.int v1), .val (.double (FP.i2d v1)), .second, .val (.double (Own.least (FP.i2d v1))), .second, .val (.long v7), .second, .val (.double (FP.l2d ((v1.toInt64) - v7))), .second, .unset, .unset] [(.long ((v1.toInt64) - v7))])) _
      refine XS.lconst X2.here hx rfl (hb hby at_53) ?_
      show Steps p.tables e below (T2.setTop (mkF m 54 #[.val (.int p0), .val (.int v1), .val (.double (FP.i2d v1)), .second, .val (.double (Own.least (FP.i2d v1))), .second, .val (.long v7), .second, .val (.double (FP.l2d ((v1.toInt64) - v7))), .second, .unset, .unset] [(.long (1 : Int64)), (.long ((v1.toInt64) - v7))])) _
      refine XS.lsub X2.here hx rfl (hb hby at_54) rfl ?_
      show Steps p.tables e below (T2.setTop (mkF m 55 #[.val (.int p0), .val (.int v1), .val (.double (FP.i2d v1)), .second, .val (.double (Own.least (FP.i2d v1))), .second, .val (.long v7), .second, .val (.double (FP.l2d ((v1.toInt64) - v7))), .second, .unset, .unset] [(.long (((v1.toInt64) - v7) - (1 : Int64)))])) _
      refine XS.l2dS X2.here hx rfl (hb hby at_55) rfl rfl ?_
      show Steps p.tables e below (T2.setTop (mkF m 56 #[.val (.int p0), .val (.int v1), .val (.double (FP.i2d v1)), .second, .val (.double (Own.least (FP.i2d v1))), .second, .val (.long v7), .second, .val (.double (FP.l2d ((v1.toInt64) - v7))), .second, .unset, .unset] [(.double (FP.l2d (((v1.toInt64) - v7) - (1 : Int64))))])) _
      refine XS.dstore X2.here hx rfl (hb hby at_56) rfl (l' := #[.val (.int p0), .val (.int v1), .val (.double (FP.i2d v1)), .second, .val (.double (Own.least (FP.i2d v1))), .second, .val (.long v7), .second, .val (.double (FP.l2d ((v1.toInt64) - v7))), .second, .val (.double (FP.l2d (((v1.toInt64) - v7) - (1 : Int64)))), .second]) rfl ?_
      show Steps p.tables e below (T2.setTop (mkF m 58 #[.val (.int p0), .val (.int v1), .val (.double (FP.i2d v1)), .second, .val (.double (Own.least (FP.i2d v1))), .second, .val (.long v7), .second, .val (.double (FP.l2d ((v1.toInt64) - v7))), .second, .val (.double (FP.l2d (((v1.toInt64) - v7) - (1 : Int64)))), .second] [])) _
      refine XS.dload X2.here hx rfl (hb hby at_58) rfl ?_
      show Steps p.tables e below (T2.setTop (mkF m 60 #[.val (.int p0), .val (.int v1), .val (.double (FP.i2d v1)), .second, .val (.double (Own.least (FP.i2d v1))), .second, .val (.long v7), .second, .val (.double (FP.l2d ((v1.toInt64) - v7))), .second, .val (.double (FP.l2d (((v1.toInt64) - v7) - (1 : Int64)))), .second] [(.double (Own.least (FP.i2d v1)))])) _
      refine XS.dloadN X2.here hx rfl (hb hby at_60) rfl ?_
      refine XS.dcmpS X2.here hx rfl (hb hby at_61) rfl rfl ?_
      show Steps p.tables e below (T2.setTop (mkF m 62 #[.val (.int p0), .val (.int v1), .val (.double (FP.i2d v1)), .second, .val (.double (Own.least (FP.i2d v1))), .second, .val (.long v7), .second, .val (.double (FP.l2d ((v1.toInt64) - v7))), .second, .val (.double (FP.l2d (((v1.toInt64) - v7) - (1 : Int64)))), .second] [(.int (cmpValue (FP.dcmp (Own.least (FP.i2d v1)) (FP.i2d v1)) .g))])) _
      refine XS.ifNo X2.here hx rfl (hb hby at_62) rfl ((if0 _ _).trans (tlt hd62_8).2.1) ?_
      show Steps p.tables e below (T2.setTop (mkF m 65 #[.val (.int p0), .val (.int v1), .val (.double (FP.i2d v1)), .second, .val (.double (Own.least (FP.i2d v1))), .second, .val (.long v7), .second, .val (.double (FP.l2d ((v1.toInt64) - v7))), .second, .val (.double (FP.l2d (((v1.toInt64) - v7) - (1 : Int64)))), .second] [])) _
      refine XS.dload X2.here hx rfl (hb hby at_65) rfl ?_
      refine XS.dload X2.here hx rfl (hb hby at_67) rfl ?_
      show Steps p.tables e below (T2.setTop (mkF m 69 #[.val (.int p0), .val (.int v1), .val (.double (FP.i2d v1)), .second, .val (.double (Own.least (FP.i2d v1))), .second, .val (.long v7), .second, .val (.double (FP.l2d ((v1.toInt64) - v7))), .second, .val (.double (FP.l2d (((v1.toInt64) - v7) - (1 : Int64)))), .second] [(.double (FP.l2d ((v1.toInt64) - v7))), (.double (Own.least (FP.i2d v1)))])) _
      refine XS.dcmpS X2.here hx rfl (hb hby at_69) rfl rfl ?_
      show Steps p.tables e below (T2.setTop (mkF m 70 #[.val (.int p0), .val (.int v1), .val (.double (FP.i2d v1)), .second, .val (.double (Own.least (FP.i2d v1))), .second, .val (.long v7), .second, .val (.double (FP.l2d ((v1.toInt64) - v7))), .second, .val (.double (FP.l2d (((v1.toInt64) - v7) - (1 : Int64)))), .second] [(.int (cmpValue (FP.dcmp (Own.least (FP.i2d v1)) (FP.l2d ((v1.toInt64) - v7))) .g))])) _
      refine XS.ifNo X2.here hx rfl (hb hby at_70) rfl ((if0 _ _).trans (flt hd70_9).2.2.1) ?_
      show Steps p.tables e below (T2.setTop (mkF m 73 #[.val (.int p0), .val (.int v1), .val (.double (FP.i2d v1)), .second, .val (.double (Own.least (FP.i2d v1))), .second, .val (.long v7), .second, .val (.double (FP.l2d ((v1.toInt64) - v7))), .second, .val (.double (FP.l2d (((v1.toInt64) - v7) - (1 : Int64)))), .second] [])) _
      refine XS.dload X2.here hx rfl (hb hby at_73) rfl ?_
      refine XS.dload X2.here hx rfl (hb hby at_75) rfl ?_
      refine XS.dcmpS X2.here hx rfl (hb hby at_77) rfl rfl ?_
      show Steps p.tables e below (T2.setTop (mkF m 78 #[.val (.int p0), .val (.int v1), .val (.double (FP.i2d v1)), .second, .val (.double (Own.least (FP.i2d v1))), .second, .val (.long v7), .second, .val (.double (FP.l2d ((v1.toInt64) - v7))), .second, .val (.double (FP.l2d (((v1.toInt64) - v7) - (1 : Int64)))), .second] [(.int (cmpValue (FP.dcmp (Own.least (FP.i2d v1)) (FP.l2d (((v1.toInt64) - v7) - (1 : Int64)))) .l))])) _
      refine XS.ifNo X2.here hx rfl (hb hby at_78) rfl ((if0 _ _).trans (flt hd78_10).1) ?_
      show Steps p.tables e below (T2.setTop (mkF m 81 #[.val (.int p0), .val (.int v1), .val (.double (FP.i2d v1)), .second, .val (.double (Own.least (FP.i2d v1))), .second, .val (.long v7), .second, .val (.double (FP.l2d ((v1.toInt64) - v7))), .second, .val (.double (FP.l2d (((v1.toInt64) - v7) - (1 : Int64)))), .second] [])) _
      refine XS.iconst X2.here hx rfl (hb hby at_81) ?_
      show Steps p.tables e below (T2.setTop (mkF m 82 #[.val (.int p0), .val (.int v1), .val (.double (FP.i2d v1)), .second, .val (.double (Own.least (FP.i2d v1))), .second, .val (.long v7), .second, .val (.double (FP.l2d ((v1.toInt64) - v7))), .second, .val (.double (FP.l2d (((v1.toInt64) - v7) - (1 : Int64)))), .second] [(.int (1 : Int32))])) _
      refine XS.goto X2.here hx rfl (pc0 := 82) (pc' := 86) rfl (hb hby at_82) (by decide) (by decide) ?_
      show Steps p.tables e below (T2.setTop (mkF m 86 #[.val (.int p0), .val (.int v1), .val (.double (FP.i2d v1)), .second, .val (.double (Own.least (FP.i2d v1))), .second, .val (.long v7), .second, .val (.double (FP.l2d ((v1.toInt64) - v7))), .second, .val (.double (FP.l2d (((v1.toInt64) - v7) - (1 : Int64)))), .second] [(.int (1 : Int32))])) _
      exact retN X2 hx (t := .boolean) Bd.returns (by simp) (hb hby at_86) hr
    · show Q0 Z p0  h0 n0 _ T2.heap _
      rw [e2]
      exact ⟨rfl, N2⟩
set_option maxRecDepth 65536 in
set_option maxHeartbeats 40000000 in
theorem comes_1 {Post : Tables → Env → Array Value → State → Outcome → State → Prop} (hpost : ∀ tb e args s v u, (limb_1_1.after args s (.returned v) u = true ∧ limb_1_2.after args s (.returned v) u = true ∧ True) → FrameEnd s (.returned v) u (Jvm.fieldLocs frame_1_writes args s ++ Jvm.arrayLocs frame_1_arrays args s ++ Jvm.staticLocs frame_1_statics s) 0 0 → Post tb e args s (.returned v) u) :
    ArmFor flags0 classFile x code maxLocals ret World_1 tables_1 room_1 Calls_1 rest_1 Pre_1 Post := by
  intro l hfl _ _ p e ha hc hk s m args below hf hA hF happ hP
  obtain ⟨hcalls, hrest, hpre⟩ := hP
  obtain ⟨-, -, -, hnamed, -, -, -, hat⟩ := (Spec.applies_iff hf).mp happ
  obtain ⟨hg, hn⟩ := and_e (Cond.before_iff.mp (show (Jvm.Cond.and given_1 narrow_1).before args s = true from hpre))
  obtain ⟨g1, g2⟩ := and_e hg
  obtain ⟨w0, rfl⟩ : ∃ w0 : Value, args = #[w0] := by
    have hs : args.size = 1 := by simpa [Cond.value, given_1] using g1
    obtain ⟨L⟩ := args
    match L, hs with
    | [w0], _ => exact ⟨w0, rfl⟩
  have hw := fun d (hd : d ∈ tables_1) => atoms_spec (ws := Jvm.Cond.code x code maxLocals ret :: tables_1) hat d (List.mem_cons_of_mem _ hd)
  have hfit : Fit s := fun {y c} hc i hi => by
    obtain ⟨ha, rfl⟩ := Array.getElem?_eq_some_iff.mp hc
    have q := List.all_eq_true.mp ((Array.all_eq_true_iff_forall_mem.mp hF) _ (Array.getElem_mem ha)) i (List.mem_range.mpr hi)
    simpa [Array.getElem?_eq_getElem hi] using q
  obtain ⟨i0, ei0⟩ := is_v g2
  obtain rfl : w0 = (.int i0) := Option.some.inj ei0
  obtain ⟨n, o, h1, h2, h3, _, L, rfl, ⟨rfl, N⟩, hq⟩ := rm0 l s _ hw tables_1 i0  s.heap s.heap.size (Nat.le_refl _)  p e ha hc hk s m _ below hf ((Spec.applies_iff_loose hf).mp happ).1 ⟨rfl, State.Warmed39.refl s, rfl⟩ trivial
  refine ⟨n, _, h1, h2, h3, hpost _ _ _ _ _ _ ⟨Cond.after_iff.mpr rfl, Cond.after_iff.mpr (eq_i res_at (Term.int_eval (1)) rfl), trivial⟩ ⟨hq.1, hq.2.1, (hq.2.2.sift fun y hy => Or.inr (N y hy)).mono (by decide) (by decide)⟩⟩
theorem main_1_1 : Claimed_1_1 := comes_1 fun _ _ _ _ _ _ h hF => ⟨h.1, hF⟩
theorem main_1_2 : Claimed_1_2 := comes_1 fun _ _ _ _ _ _ h hF => ⟨h.2.1, hF⟩
end Jvm.Pilot.@@N@@
namespace Jvm.Pilot.@@N@@
open Jvm Jvm.ClassFile Sem Op Lib Jvm.Free Jvm.Stand Jvm.Pilot.@@N@@.Jvm.D
/-! MADE BY PROGRAM (witnessworld.py) out of the Statement's table words and the real class files: 9 classes; the members and pool entries that the words name. The judged class is class 1, her method 1. -/
namespace start1
open Jvm.ClassFile
def u (s : String) : CpInfo := .utf8 (stringToUtf16 s)
/-- a pool by its gaps: so many unusable entries, then the entry; so many at the end -/
def gap : Nat → List CpInfo → List CpInfo
  | 0, r => r
  | n + 1, r => .unusable :: gap n r
def poolList (es : List (Nat × CpInfo)) (last : Nat) : List CpInfo := es.foldr (fun e r => gap e.1 (e.2 :: r)) (gap last [])
def pool (es : List (Nat × CpInfo)) (last : Nat) : Array CpInfo := ⟨poolList es last⟩
def fileOf (pool : Array CpInfo) (this : Nat) (attrs : Array Attribute := #[]) (ms : Array MethodInfo := #[]) (fl : Nat := 33) (sup : Nat := 0) (ifs : Array Nat := #[]) (fds : Array FieldInfo := #[]) : ClassFile where
  minorVersion := 0
  majorVersion := 65
  constantPool := pool
  accessFlags := fl
  thisClass := this
  superClass := sup
  interfaces := ifs
  fields := fds
  methods := ms
  attributes := attrs
def plain (name : String) (sup : Option ClassId) : Class where
  name := name
  kind := .ordinary
  loader := none
  accessFlags := 33
  super := sup
  interfaces := #[]
  cf := none
  fields := #[]
  methods := #[]
  instanceTypes := #[]
  staticTypes := #[]
  resolved := #[]
  callSites := []
  init := .initialized
  statics := none
  mirror := none

def pool0 : Array CpInfo := pool [(5, u "<init>"), (0, u "()V"), (1, .class_ 10), (1, u "java/lang/Object")] 113

def k0m0 : Method := { name := "<init>", desc := "()V", sig := { parameters := [], returnType := none }, accessFlags := 1, code := none }
/-- java/lang/Object -/
def k0 : Class := { plain "java/lang/Object" none with
  accessFlags := 33
  interfaces := #[]
  cf := some (fileOf pool0 8 #[] #[{ accessFlags := 1, nameIndex := 5, descriptorIndex := 6, attributes := #[] }] 33 0 #[] #[])
  fields := #[]
  methods := #[k0m0]
  instanceTypes := #[]
  staticTypes := #[]
  resolved := Array.replicate 124 none
  statics := none }

def pool1 : Array CpInfo := pool [(2, .class_ 4), (1, u "java/lang/Object"), (0, u "<init>"), (0, u "()V"), (0, .integer 2147483647), (0, .methodref 9 10), (0, .class_ 11), (0, .nameAndType 12 13), (0, u "com/example/lotwise/lotwise/Relaxation"), (0, u "leastReaching"), (0, u "(D)D"), (2, .double 9227875636482146304), (1, .integer 1000000000), (0, .class_ 20), (0, u "com/example/lotwise/lotwise/RelaxationLeastReachingPinLaw"), (2, u "law"), (0, u "(I)Z")] 3

def k1m0 : Method := { name := "<init>", desc := "()V", sig := { parameters := [], returnType := none }, accessFlags := 1, code := none }
def k1c1 : Code := { maxStack := 4, maxLocals := 12, code := code, exceptionTable := #[], attributes := #[] }
def k1m1 : Method := { name := "law", desc := "(I)Z", sig := { parameters := [.int], returnType := some .boolean }, accessFlags := 9, code := some k1c1 }
/-- com/example/lotwise/lotwise/RelaxationLeastReachingPinLaw -/
def k1 : Class := { plain "com/example/lotwise/lotwise/RelaxationLeastReachingPinLaw" (some 0) with
  accessFlags := 49
  interfaces := #[]
  cf := some (fileOf pool1 19 #[] #[{ accessFlags := 1, nameIndex := 5, descriptorIndex := 6, attributes := #[] }, { accessFlags := 9, nameIndex := 23, descriptorIndex := 24, attributes := #[] }] 49 2 #[] #[])
  fields := #[]
  methods := #[k1m0, k1m1]
  instanceTypes := #[]
  staticTypes := #[]
  resolved := Array.replicate 28 none
  statics := none }

def pool2 : Array CpInfo := pool [(2, .class_ 4), (1, u "java/lang/Object"), (3, .class_ 10), (1, u "com/example/lotwise/lotwise/Relaxation"), (0, u "members"), (0, u "[I"), (2, u "units"), (0, u "[J"), (2, u "rates"), (0, u "[D"), (2, u "most"), (0, u "Z"), (2, u "absent"), (0, u "I"), (2, u "whole"), (0, u "Lcom/example/lotwise/lotwise/Relaxation;"), (2, u "unitsBefore"), (17, u "owned"), (0, u "[[I"), (18, u "leastReaching"), (0, u "(D)D"), (0, .double 4472406533629990549), (3, .double 4503599627370496), (84, .class_ 166), (1, u "com/example/lotwise/lotwise/Relaxation$Piece"), (7, u "D"), (53, u "margins"), (0, u "[Lcom/example/lotwise/lotwise/Relaxation$Margin;"), (0, .class_ 231), (0, u "com/example/lotwise/lotwise/Relaxation$Margin"), (20, .class_ 253), (0, u "com/example/lotwise/lotwise/Relaxation$Outlook"), (15, u "SLACK")] 89

def k2c0 : Code := { maxStack := 6, maxLocals := 2, code := prog_35_method_5_code, exceptionTable := #[], attributes := #[] }
def k2m0 : Method := { name := "leastReaching", desc := "(D)D", sig := { parameters := [.double], returnType := some .double }, accessFlags := 8, code := some k2c0 }
/-- com/example/lotwise/lotwise/Relaxation -/
def k2 : Class := { plain "com/example/lotwise/lotwise/Relaxation" (some 0) with
  accessFlags := 48
  interfaces := #[]
  cf := some (fileOf pool2 8 #[.nestMembers #[252, 230, 164]] #[{ accessFlags := 8, nameIndex := 73, descriptorIndex := 74, attributes := #[] }] 48 2 #[] #[{ accessFlags := 24, nameIndex := 269, descriptorIndex := 174, attributes := #[] }, { accessFlags := 18, nameIndex := 11, descriptorIndex := 12, attributes := #[] }, { accessFlags := 18, nameIndex := 15, descriptorIndex := 16, attributes := #[] }, { accessFlags := 18, nameIndex := 19, descriptorIndex := 20, attributes := #[] }, { accessFlags := 18, nameIndex := 23, descriptorIndex := 24, attributes := #[] }, { accessFlags := 18, nameIndex := 53, descriptorIndex := 54, attributes := #[] }, { accessFlags := 18, nameIndex := 35, descriptorIndex := 16, attributes := #[] }, { accessFlags := 18, nameIndex := 27, descriptorIndex := 28, attributes := #[] }, { accessFlags := 18, nameIndex := 31, descriptorIndex := 32, attributes := #[] }, { accessFlags := 2, nameIndex := 228, descriptorIndex := 229, attributes := #[] }])
  fields := #[{ name := "SLACK", type := .double, accessFlags := 24, slot := 0, constantValue := 0 }, { name := "members", type := (.array .int), accessFlags := 18, slot := 0, constantValue := 0 }, { name := "units", type := (.array .long), accessFlags := 18, slot := 1, constantValue := 0 }, { name := "rates", type := (.array .double), accessFlags := 18, slot := 2, constantValue := 0 }, { name := "most", type := .boolean, accessFlags := 18, slot := 3, constantValue := 0 }, { name := "owned", type := (.array (.array .int)), accessFlags := 18, slot := 4, constantValue := 0 }, { name := "unitsBefore", type := (.array .long), accessFlags := 18, slot := 5, constantValue := 0 }, { name := "absent", type := .int, accessFlags := 18, slot := 6, constantValue := 0 }, { name := "whole", type := (.object "com/example/lotwise/lotwise/Relaxation"), accessFlags := 18, slot := 7, constantValue := 0 }, { name := "margins", type := (.array (.object "com/example/lotwise/lotwise/Relaxation$Margin")), accessFlags := 2, slot := 8, constantValue := 0 }]
  methods := #[k2m0]
  instanceTypes := #[(.array .int), (.array .long), (.array .double), .boolean, (.array (.array .int)), (.array .long), .int, (.object "com/example/lotwise/lotwise/Relaxation"), (.array (.object "com/example/lotwise/lotwise/Relaxation$Margin"))]
  staticTypes := #[.double]
  resolved := Array.replicate 359 none
  statics := none }

def pool3 : Array CpInfo := pool [(1, u "java/lang/Cloneable"), (0, .class_ 1), (0, u "java/lang/Object"), (0, .class_ 3)] 3

/-- java/lang/Cloneable -/
def k3 : Class := { plain "java/lang/Cloneable" (some 0) with
  accessFlags := 1537
  interfaces := #[]
  cf := some (fileOf pool3 2 #[] #[] 1537 4 #[] #[])
  fields := #[]
  methods := #[]
  instanceTypes := #[]
  staticTypes := #[]
  resolved := Array.replicate 8 none
  statics := none }

def pool4 : Array CpInfo := pool [(1, u "java/io/Serializable"), (0, .class_ 1), (0, u "java/lang/Object"), (0, .class_ 3)] 3

/-- java/io/Serializable -/
def k4 : Class := { plain "java/io/Serializable" (some 0) with
  accessFlags := 1537
  interfaces := #[]
  cf := some (fileOf pool4 2 #[] #[] 1537 4 #[] #[])
  fields := #[]
  methods := #[]
  instanceTypes := #[]
  staticTypes := #[]
  resolved := Array.replicate 8 none
  statics := none }

/-- the primitive byte -/
def k5 : Class := { plain "byte" none with kind := .primitive 'B', accessFlags := 0x411 }
/-- [B -/
def k6 : Class := { plain "[B" (some 0) with kind := .array 5 .byte, interfaces := #[3, 4], accessFlags := 1041 }

/-- the primitive int -/
def k7 : Class := { plain "int" none with kind := .primitive 'I', accessFlags := 0x411 }
/-- [I -/
def k8 : Class := { plain "[I" (some 0) with kind := .array 7 .int, interfaces := #[3, 4], accessFlags := 1041 }

def heap : Heap := #[]
def classes : Array Class := #[k0, k1, k2, k3, k4, k5, k6, k7, k8]
def interned : List (Array UInt16 × Addr) := []
def slotsUsed : Nat := 0
def theMethod : MethodId := ⟨1, 1⟩
def args0 : Array Value := #[.int 5]
def aboutOver (below : List Frame) : State where
  vm := { classes := classes, interned := interned.toArray }
  heap := heap
  slotsUsed := slotsUsed
  threads := #[{ frames := .invoking theMethod args0 :: below }]
def below0 : List Frame := [.native { method := ⟨0, 0⟩, args := #[] }]
def about1 : State := aboutOver below0
def p0 : Program := .bare "" "" ""
def e0 : Env := launch0.env 0 0 0
theorem w_frames : about1.frames = Frame.invoking theMethod args0 :: below0 := rfl
set_option maxRecDepth 65536 in
theorem w_args : argsFit about1.vm theMethod args0 = true := by decide +kernel
set_option maxRecDepth 65536 in
theorem w_heap : heapFits about1 = true := by decide +kernel
set_option maxRecDepth 65536 in
theorem w_runnable : about1.curStatus? = some .runnable := by decide +kernel
set_option maxRecDepth 65536 in
theorem w_alone : about1.alone = true := by decide +kernel
set_option maxRecDepth 65536 in
theorem w_named : about1.methodNamed? x = some theMethod := by decide +kernel
set_option maxRecDepth 65536 in
theorem w_hears : about1.hears theMethod below0 = true := by decide +kernel
set_option maxRecDepth 65536 in
theorem w_ripe : about1.ripe theMethod args0 below0 = true := by decide +kernel
theorem w_running : about1.status = .running := rfl
set_option maxRecDepth 65536 in
theorem w_room : about1.hasRoom e0.platform room_1 = true :=
  launch0.hasRoom_least _ room_1 (by decide +kernel) (by decide +kernel) (by decide +kernel) (by decide +kernel) (by decide +kernel) (by decide +kernel)
theorem allAtoms_all (ts : List Jvm.Cond) (a : Array Jvm.Value) (st : Jvm.State) : (allAtoms ts).before a st = ts.all (fun c => c.before a st) := by
  induction ts with
  | nil => rfl
  | cons c t ih =>
    show (Jvm.Cond.and c (allAtoms t)).before a st = _
    rw [Jvm.Cond.before_and, ih, List.all_cons]
def words1 : List Jvm.Cond := Jvm.Cond.code x code maxLocals ret :: tables_1
/-- a 'code' word, met by the world's own term for the bytes: nothing is compared byte by byte -/
theorem code_word {y : MethodName} {bytes : ByteArray} {mx : Nat} {rt : Option FieldType} {a : Array Value} {s : State} {m : MethodId} {meth : Method} {c : Code} (h1 : s.methodNamed? y = some m) (h2 : s.vm.method? m = some meth) (h3 : meth.code = some c) (h4 : c.code = bytes)
    (h5 : (c.maxLocals == mx && c.exceptionTable.isEmpty && decide (c.maxStack ≤ mostOperands) && decide (meth.sig.returnType = rt) && !meth.locks && decide (parseMethodDescriptor y.desc = some meth.sig)) = true) : (Jvm.Cond.code y bytes mx rt).before a s = true := by
  simp only [Bool.and_eq_true, beq_iff_eq, Bool.not_eq_true', decide_eq_true_eq] at h5
  obtain ⟨⟨⟨⟨⟨g1, g2⟩, g3⟩, g4⟩, g5⟩, g6⟩ := h5
  simp [Cond.before, Cond.holds, Cond.value, h1, h2, h3, h4, g1, g2, g3, g4, g5, g6]
def isCode : Jvm.Cond → Bool
  | .code _ _ _ _ => true
  | _ => false
theorem all_split {L : List Jvm.Cond} {P : Jvm.Cond → Bool} (h1 : L.all (fun c => isCode c || P c) = true) (h2 : ∀ c ∈ L.filter isCode, P c = true) : L.all P = true := by
  refine List.all_eq_true.mpr fun c hc => ?_
  have h := List.all_eq_true.mp h1 c hc
  rcases Bool.eq_false_or_eq_true (isCode c) with hi | hi
  · exact h2 c (List.mem_filter.mpr ⟨hc, hi⟩)
  · simpa [hi] using h
set_option maxRecDepth 65536 in
theorem w_c0 : (Jvm.Cond.code x code maxLocals ret).before args0 about1 = true := code_word (m := ⟨1, 1⟩) (meth := k1m1) (c := k1c1) (by decide +kernel) rfl rfl rfl (by decide +kernel)
set_option maxRecDepth 65536 in
theorem w_c1 : (Jvm.Cond.code ({ cls := "com/example/lotwise/lotwise/Relaxation", name := "leastReaching", desc := "(D)D" } : Jvm.MethodName) prog_35_method_5_code (2 : Nat) (Option.some Jvm.ClassFile.FieldType.double)).before args0 about1 = true := code_word (m := ⟨2, 0⟩) (meth := k2m0) (c := k2c0) (by decide +kernel) rfl rfl rfl (by decide +kernel)
def codes1 : List Jvm.Cond := [Jvm.Cond.code x code maxLocals ret, Jvm.Cond.code ({ cls := "com/example/lotwise/lotwise/Relaxation", name := "leastReaching", desc := "(D)D" } : Jvm.MethodName) prog_35_method_5_code (2 : Nat) (Option.some Jvm.ClassFile.FieldType.double)]
set_option maxRecDepth 65536 in
theorem codes_eq : words1.filter isCode = codes1 := rfl
theorem w_codes : ∀ c ∈ words1.filter isCode, c.before args0 about1 = true := by
  rw [codes_eq]
  intro c hc
  simp only [codes1, List.mem_cons, List.not_mem_nil, or_false] at hc
  rcases hc with rfl | rfl
  · exact w_c0
  · exact w_c1
set_option maxRecDepth 65536 in
theorem w_t1 : words1.all (fun c => isCode c || c.before args0 about1) = true := by decide +kernel
theorem w_tables : (allAtoms (Jvm.Cond.code x code maxLocals ret :: tables_1)).before args0 about1 = true := by
  rw [allAtoms_all]
  show words1.all (fun c => c.before args0 about1) = true
  refine all_split ?_ w_codes
  rw [w_t1]
set_option maxRecDepth 65536 in
theorem w_case : (Jvm.Cond.and given_1 narrow_1).before args0 about1 = true := by decide +kernel
theorem w_applies : (headSpec (Jvm.Cond.code x code maxLocals ret :: tables_1) room_1).applies x e0.platform about1 = true :=
  (Spec.applies_iff w_frames).mpr ⟨w_running, w_runnable, w_alone, w_named, w_hears, w_ripe, w_room, w_tables⟩
theorem atStart : AtStart classFile x code maxLocals ret World_1 tables_1 room_1 Calls_1 rest_1 Pre_1 launch0 p0 e0 about1 theMethod args0 below0 :=
  ⟨lists_1, trivial, launch0.admits_env _ _ _, launch0.least_env, fairChoices_fair.cas, fairChoices_fair.clock, w_frames, w_args, w_heap, w_applies, trivial, trivial, w_case⟩
end start1
theorem witness_1 : WitnessClaimed_1 := ⟨start1.p0, start1.e0, start1.about1, start1.theMethod, start1.args0, start1.below0, start1.atStart⟩
end Jvm.Pilot.@@N@@
