import JvmDerived
import JvmDerived.Pilot.@@N@@Statement
import JvmDerived.Pilot.@@N@@Code
set_option linter.unusedVariables false
set_option linter.unusedSimpArgs false
namespace Jvm.RoadKit
open Sem ClassFile Op Lib Jvm.Stand Jvm.Free Jvm.LawKit
section New
variable {p : Program} {l : Launch} {e : Env} {R : Room} {s : State} {m : MethodId} {args : Array Value} {below : List Frame} {meth : Method} {c : Code} {T : State} {locs : List Loc} {cells slots : Nat}
theorem retI (X : Stand p l e R s m args below meth c T locs cells slots) (hx : p.tables.exec = Jvm.exec) {pc : Nat} {Ls : Array Slot} {z : Int32} {rest : List Value} (hret : meth.sig.returnType = some .int) (hd : decode c.code pc = .ok (.ireturn, 1)) {fs : List Frame}
    (hl : ∀ (f : JFrame) (acts : List Action), f.method = m → f.locked = none → f.entered = [] → (doReturn e (T.setTop f) acts (some (.int z))).1 = T.setFrames fs) : Steps p.tables e below (T.setTop (mkF m pc Ls (.int z :: rest))) (T.setFrames fs) := by
  have hm' : T.vm.method? m = some meth := X.method'
  have hn : narrow .int (.int z) = .int z := rfl
  show Steps p.tables e below (T.setTop { method := m, pc := pc, locals := Ls, stack := _ :: rest, locked := none }) _
  jvm_step X.here [X.here.top, hx, hd, hm', hret, hn]
  first | (intro acts; rw [hl _ acts rfl rfl rfl]) | rw [hl _ _ rfl rfl rfl]
  exact Steps.refl _
theorem lremM {g : JFrame} {target : State} (X : Stand p l e R s m args below meth c T locs cells slots) (hx : p.tables.exec = Jvm.exec) (hg : g.method = m) {x y : Int64} {rest : List Value} (hd : decode c.code g.pc = .ok (.lrem, 1)) (hs : g.stack = .long y :: .long x :: rest) (hy : y ≠ 0)
    (hr : Steps p.tables e below (T.setTop { g with pc := g.pc + 1, stack := .long (x % y) :: rest }) target) : Steps p.tables e below (T.setTop g) target := by
  have q : x - x / y * y = x % y := lrem_mod x y
  exact XS.lrem X.here hx hg hd hs hy (by rw [q]; exact hr)
/-- from the state t the invocation ends as Q says -/
def Done (p : Program) (e : Env) (below : List Frame) (Q : Outcome → State → Prop) (t : State) : Prop := ∃ s₂ o, Steps p.tables e below t s₂ ∧ s₂.status = .running ∧ Ended s₂ below o ∧ Q o s₂
theorem Done.of {p : Program} {e : Env} {below : List Frame} {Q : Outcome → State → Prop} {t t' : State} (h : Done p e below Q t') (k : ∀ target, Steps p.tables e below t' target → Steps p.tables e below t target) : Done p e below Q t := by
  obtain ⟨s₂, o, h1, h2⟩ := h
  exact ⟨s₂, o, k _ h1, h2⟩
end New
end Jvm.RoadKit
-- (own work) doubles, monotone rounding: Relaxation.leastReaching between doubles
namespace Own
open Jvm.FP.Core
def Rep (z : Int) : Prop := ∃ V : UInt64, DFin V ∧ zval b64 (val64 V) = z
theorem rep (n : Int) (hn : n.natAbs < 2 ^ 53) (j : Nat) (hj : j ≤ 2045) : Rep (n * ((2 ^ j : Nat) : Int)) := by
  have hq : b64.qmax - b64.qmin = 2045 := by decide +kernel
  obtain ⟨c', q', h1, h2⟩ := round_exact good_b64 (decide (n < 0)) (c := n.natAbs) (q := b64.qmin + j) hn (by omega) (by omega)
  have hf := round_fits good_b64 (.fin (decide (n < 0)) n.natAbs (b64.qmin + j))
  refine ⟨of64 (.fin (decide (n < 0)) c' q'), ?_, ?_⟩
  · rw [h1] at hf
    exact ⟨_, _, _, val64_of64 hf⟩
  · rw [h1] at hf
    rw [val64_of64 hf]
    show signed (decide (n < 0)) (inUnits c' q' b64.qmin) = _
    rw [h2]
    unfold inUnits
    rw [show (b64.qmin + (j : Int) - b64.qmin).toNat = j by omega, signed_mul]
    congr 1
    unfold signed
    by_cases h : n < 0 <;> simp [h] <;> omega
theorem finOf {x V : UInt64} (hx : val64 x ≠ .nan) (hV : DFin V) (h : zval b64 (val64 x) = zval b64 (val64 V)) : DFin x := by
  have h1 := hV.zval_lt
  cases hv : val64 x with
  | nan => exact absurd hv hx
  | fin s c q => exact ⟨s, c, q, hv⟩
  | inf s =>
    exfalso
    rw [hv] at h
    have h2 : (zval b64 (.inf s)).natAbs = b64.tails * 2 ^ (b64.exps - 2) := natAbs_signed _ _
    rw [h] at h2
    have h3 : (zval b64 (val64 V)).natAbs = zmag b64 (val64 V) := natAbs_signed _ _
    omega
theorem add {a b : UInt64} {z : Int} (ha : DFin a) (hb : DFin b) (hz : zval b64 (val64 a) + zval b64 (val64 b) = z) (r : Rep z) : DFin (dadd a b) ∧ zval b64 (val64 (dadd a b)) = z := by
  obtain ⟨V, hV, rfl⟩ := r
  have e : zval b64 (val64 (dadd a b)) = zval b64 (val64 V) := by
    rw [val64_dadd]
    exact Int.le_antisymm (sum_le good_b64 ha hb (val64_fits a) (val64_fits b) (val64_fits V) hV.ne_nan (Int.le_of_eq hz)) (sum_ge good_b64 ha hb (val64_fits a) (val64_fits b) (val64_fits V) hV.ne_nan (Int.le_of_eq hz.symm))
  exact ⟨finOf ((notNaN_iff _).mp (dadd_out ha.notNaN hb)) hV e, e⟩
theorem neg {b : UInt64} (hb : DFin b) : DFin (dneg b) ∧ zval b64 (val64 (dneg b)) = -zval b64 (val64 b) := by
  obtain ⟨s, c, q, h⟩ := hb
  refine ⟨⟨!s, c, q, ?_⟩, ?_⟩
  · rw [val64_dneg, h]; rfl
  · rw [val64_dneg, zval_negate]
theorem sub {a b : UInt64} {z : Int} (ha : DFin a) (hb : DFin b) (hz : zval b64 (val64 a) - zval b64 (val64 b) = z) (r : Rep z) : DFin (dsub a b) ∧ zval b64 (val64 (dsub a b)) = z := by
  rw [dsub_eq]
  exact add ha (neg hb).1 (by rw [(neg hb).2]; omega) r
theorem mul {a b : UInt64} {z : Int} (ha : DFin a) (hb : DFin b) (hz : zval b64 (val64 a) * zval b64 (val64 b) = z * (one64 : Int)) (r : Rep z) : DFin (dmul a b) ∧ zval b64 (val64 (dmul a b)) = z := by
  obtain ⟨V, hV, rfl⟩ := r
  have hn := (notNaN_iff _).mp (dmul_out ha hb)
  obtain ⟨s, c, q, h1⟩ := ha
  obtain ⟨t, d, u, h2⟩ := hb
  have f1 := val64_fits a
  have f2 := val64_fits b
  rw [h1] at f1 hz
  rw [h2] at f2 hz
  obtain ⟨p1, p2, p3⟩ := product_units f1 f2
  have e0 : b64.qmin - 2 * b64.qmin = -b64.qmin := by omega
  have e2 : signed (s != t) (inUnits (c * d) (q + u) (2 * b64.qmin)) = zval b64 (val64 V) * ((2 ^ (b64.qmin - 2 * b64.qmin).toNat : Nat) : Int) := by
    rw [p3, signed_xor, e0, pow_qmin64]; exact hz
  have e : zval b64 (val64 (dmul a b)) = zval b64 (val64 V) := by
    rw [val64_dmul, h1, h2, p1]
    exact Int.le_antisymm (zval_round_le good_b64 (val64_fits V) hV.ne_nan (by decide +kernel) p2 (Int.le_of_eq e2)) (zval_round_ge good_b64 (val64_fits V) hV.ne_nan (by decide +kernel) p2 (Int.le_of_eq e2.symm))
  exact ⟨finOf hn hV e, e⟩
theorem one64c : (one64 : Int) = ((2 ^ 1074 : Nat) : Int) := rfl
theorem p2 (i j : Nat) : ((2 ^ i : Nat) : Int) * ((2 ^ j : Nat) : Int) = ((2 ^ (i + j) : Nat) : Int) := by rw [← Int.natCast_mul, ← Nat.pow_add]
theorem p3 (x : Int) (i j : Nat) : x * ((2 ^ i : Nat) : Int) * ((2 ^ j : Nat) : Int) = x * ((2 ^ (i + j) : Nat) : Int) := by rw [Int.mul_assoc, p2]
theorem mulB {a b V : UInt64} (ha : DFin a) (hb : DFin b) (hV : DFin V) : (zval b64 (val64 a) * zval b64 (val64 b) ≤ zval b64 (val64 V) * (one64 : Int) → zval b64 (val64 (dmul a b)) ≤ zval b64 (val64 V)) ∧ (zval b64 (val64 V) * (one64 : Int) ≤ zval b64 (val64 a) * zval b64 (val64 b) → zval b64 (val64 V) ≤ zval b64 (val64 (dmul a b))) := by
  obtain ⟨s, c, q, h1⟩ := ha
  obtain ⟨t, d, u, h2⟩ := hb
  have f1 := val64_fits a
  have f2 := val64_fits b
  rw [h1] at f1
  rw [h2] at f2
  obtain ⟨p1, p2, p3⟩ := product_units f1 f2
  have e0 : b64.qmin - 2 * b64.qmin = -b64.qmin := by omega
  have e2 : signed (s != t) (inUnits (c * d) (q + u) (2 * b64.qmin)) = zval b64 (val64 a) * zval b64 (val64 b) := by
    rw [p3, signed_xor, h1, h2]; rfl
  constructor
  · intro hz
    rw [val64_dmul, h1, h2, p1]
    exact zval_round_le good_b64 (val64_fits V) hV.ne_nan (by decide +kernel) p2 (by rw [e2, e0, pow_qmin64]; exact hz)
  · intro hz
    rw [val64_dmul, h1, h2, p1]
    exact zval_round_ge good_b64 (val64_fits V) hV.ne_nan (by decide +kernel) p2 (by rw [e2, e0, pow_qmin64]; exact hz)
theorem subB {a b V : UInt64} (ha : DFin a) (hb : DFin b) (hV : DFin V) : (zval b64 (val64 a) - zval b64 (val64 b) ≤ zval b64 (val64 V) → zval b64 (val64 (dsub a b)) ≤ zval b64 (val64 V)) ∧ (zval b64 (val64 V) ≤ zval b64 (val64 a) - zval b64 (val64 b) → zval b64 (val64 V) ≤ zval b64 (val64 (dsub a b))) := by
  have hn := neg hb
  rw [dsub_eq, val64_dadd]
  exact ⟨fun h => sum_le good_b64 ha hn.1 (val64_fits a) (val64_fits _) (val64_fits V) hV.ne_nan (by rw [hn.2]; omega), fun h => sum_ge good_b64 ha hn.1 (val64_fits a) (val64_fits _) (val64_fits V) hV.ne_nan (by rw [hn.2]; omega)⟩
theorem finBet {x V W : UInt64} (hx : val64 x ≠ .nan) (hV : DFin V) (hW : DFin W) (h1 : zval b64 (val64 V) ≤ zval b64 (val64 x)) (h2 : zval b64 (val64 x) ≤ zval b64 (val64 W)) : DFin x := by
  have b1 := hV.zval_lt
  have b2 := hW.zval_lt
  cases hv : val64 x with
  | nan => exact absurd hv hx
  | fin s c q => exact ⟨s, c, q, hv⟩
  | inf s =>
    exfalso
    rw [hv] at h1 h2
    have e3 : (zval b64 (val64 V)).natAbs = zmag b64 (val64 V) := natAbs_signed _ _
    have e4 : (zval b64 (val64 W)).natAbs = zmag b64 (val64 W) := natAbs_signed _ _
    have e5 : zval b64 (.inf s) = signed s (b64.tails * 2 ^ (b64.exps - 2)) := rfl
    rw [e5] at h1 h2
    generalize b64.tails * 2 ^ (b64.exps - 2) = P at *
    cases s <;> simp [signed] at h1 h2 <;> omega
/-- a multiple of 2^1021 -/
theorem mult {c k : Nat} (hc : c < 2 ^ 53) (h : 2 ^ 1073 ≤ c * 2 ^ k) : ∃ A, c * 2 ^ k = A * 2 ^ 1021 := by
  have hk : 1021 ≤ k := by
    refine Nat.le_of_not_lt fun hlt => ?_
    have h1 : c * 2 ^ k ≤ (2 ^ 53 - 1) * 2 ^ 1020 := Nat.mul_le_mul (by omega) (Nat.pow_le_pow_right (by decide) (by omega))
    have h2 : (2 ^ 53 - 1) * 2 ^ 1020 + 2 ^ 1020 = 2 ^ 1073 := by decide +kernel
    have h3 : 0 < 2 ^ 1020 := Nat.two_pow_pos _
    generalize (2 ^ 53 - 1) * 2 ^ 1020 = P at *
    generalize 2 ^ 1020 = Q at *
    generalize 2 ^ 1073 = R at *
    omega
  exact ⟨c * 2 ^ (k - 1021), by rw [Nat.mul_assoc, ← Nat.pow_add, Nat.sub_add_cancel hk]⟩
theorem fin0 : DFin 0 ∧ zval b64 (val64 0) = 0 := ⟨(fin_bits _).mpr (by decide), zval64_zero⟩
theorem finN : DFin 4503599627370496 ∧ zval b64 (val64 4503599627370496) = ((2 ^ 52 : Nat) : Int) := ⟨(fin_bits _).mpr (by decide), by decide +kernel⟩
theorem absorb {y : UInt64} (hy : DFin y) (h1 : ((2 ^ 1074 : Nat) : Int) ≤ zval b64 (val64 y)) : zval b64 (val64 y) ≤ zval b64 (val64 (dsub y 4503599627370496)) := by
  have hn := neg finN.1
  have hyl := hy.zval_lt
  rw [dsub_eq, val64_dadd]
  obtain ⟨s', c', q', hyv⟩ := hy
  obtain ⟨t', d', u', hmv⟩ := hn.1
  have fy := val64_fits y
  have fm := val64_fits (dneg 4503599627370496)
  rw [hyv] at fy
  rw [hmv] at fm
  obtain ⟨sg, n, e, k1, k2, k3⟩ := sum_units fy fm
  rw [← hyv, ← hmv, hn.2, finN.2] at k3
  rw [← hyv, ← hmv] at k1
  rw [k1]
  have big : ((2 ^ 52 : Nat) : Int) + ((2 ^ 1073 : Nat) : Int) < ((2 ^ 1074 : Nat) : Int) := by decide +kernel
  have hsg : sg = false := by
    cases sg with
    | false => rfl
    | true =>
      exfalso
      simp only [signed, if_true] at k3
      generalize ((2 ^ 1074 : Nat) : Int) = P at *
      have : (0 : Int) < ((2 ^ 1073 : Nat) : Int) := by decide +kernel
      generalize ((2 ^ 1073 : Nat) : Int) = Q at *
      omega
  subst hsg
  have hX : ((inUnits n e b64.qmin : Nat) : Int) = zval b64 (val64 y) - ((2 ^ 52 : Nat) : Int) := by
    have : signed false (inUnits n e b64.qmin) = ((inUnits n e b64.qmin : Nat) : Int) := rfl
    omega
  have hzy : zval b64 (val64 y) = ((inUnits c' q' b64.qmin : Nat) : Int) := by
    rw [hyv] at h1 ⊢
    have e1 : zval b64 (.fin s' c' q') = signed s' (inUnits c' q' b64.qmin) := rfl
    rw [e1] at h1 ⊢
    cases s' with
    | false => rfl
    | true =>
      exfalso
      simp only [signed, if_true] at h1
      have : (0 : Int) < ((2 ^ 1074 : Nat) : Int) := by decide +kernel
      generalize ((2 ^ 1074 : Nat) : Int) = P at *
      omega
  rcases roundRatio_cases b64 false n 1 e with ⟨c, q, hR⟩ | hR
  · have hd := roundRatio_nearest good_b64 (by decide) hR fy.1 fy.2.1 (Int.le_refl _) k2
    have hfit := roundRatio_fits good_b64 false n (B := 1) (by decide) e
    show _ ≤ zval b64 (roundRatio b64 false n 1 e)
    rw [hR] at hfit ⊢
    have e2 : zval b64 (.fin false c q) = ((inUnits c q b64.qmin : Nat) : Int) := rfl
    rw [e2]
    unfold distance at hd
    rw [hzy] at hX h1 ⊢
    refine Int.le_of_not_gt fun hlt => ?_
    have hc53 : c < 2 ^ 53 := hfit.1
    have hc53' : c' < 2 ^ 53 := fy.1
    have g1 : 2 ^ 1073 ≤ inUnits c q b64.qmin := by
      have big2 : ((2 ^ 53 : Nat) : Int) + ((2 ^ 1073 : Nat) : Int) < ((2 ^ 1074 : Nat) : Int) := by decide +kernel
      have q1 : ((2 ^ 1073 : Nat) : Int) ≤ ((inUnits c q b64.qmin : Nat) : Int) := by
        generalize ((2 ^ 1073 : Nat) : Int) = Q at *
        generalize ((2 ^ 1074 : Nat) : Int) = P at *
        omega
      exact Int.ofNat_le.mp q1
    have g2 : 2 ^ 1073 ≤ inUnits c' q' b64.qmin := by
      have q1 : ((2 ^ 1073 : Nat) : Int) ≤ ((inUnits c' q' b64.qmin : Nat) : Int) := by
        generalize ((2 ^ 1073 : Nat) : Int) = Q at *
        generalize ((2 ^ 1074 : Nat) : Int) = P at *
        omega
      exact Int.ofNat_le.mp q1
    obtain ⟨A, hA⟩ := mult hc53 (show 2 ^ 1073 ≤ c * 2 ^ (q - b64.qmin).toNat from g1)
    obtain ⟨B, hB⟩ := mult hc53' (show 2 ^ 1073 ≤ c' * 2 ^ (q' - b64.qmin).toNat from g2)
    have hA' : inUnits c q b64.qmin = A * 2 ^ 1021 := hA
    have hB' : inUnits c' q' b64.qmin = B * 2 ^ 1021 := hB
    rw [hA'] at hd hlt
    rw [hB'] at hX hlt hd
    have hP : 2 ^ 54 ≤ 2 ^ 1021 := Nat.pow_le_pow_right (by decide) (by decide)
    have hAB : A < B := by
      have : A * 2 ^ 1021 < B * 2 ^ 1021 := Int.ofNat_lt.mp hlt
      exact Nat.lt_of_mul_lt_mul_right this
    have hAB2 : (A + 1) * 2 ^ 1021 ≤ B * 2 ^ 1021 := Nat.mul_le_mul_right _ hAB
    rw [Nat.add_mul, Nat.one_mul] at hAB2
    generalize A * 2 ^ 1021 = a at *
    generalize B * 2 ^ 1021 = b at *
    generalize 2 ^ 1021 = P at *
    omega
  · show _ ≤ zval b64 (roundRatio b64 false n 1 e)
    rw [hR]
    have e3 : (zval b64 (val64 y)).natAbs = zmag b64 (val64 y) := natAbs_signed _ _
    have e5 : zval b64 (.inf false) = ((b64.tails * 2 ^ (b64.exps - 2) : Nat) : Int) := rfl
    rw [e5]
    generalize b64.tails * 2 ^ (b64.exps - 2) = P at *
    omega
def U : Int := ((2 ^ 992 : Nat) : Int)
theorem U_pos : 0 < U := by unfold U; decide +kernel
theorem repU (n : Int) (k : Nat) (hn : n.natAbs < 2 ^ 53) (hk : k ≤ 1000) : ∃ V : UInt64, DFin V ∧ zval b64 (val64 V) = n * ((2 ^ k : Nat) : Int) * U := by
  obtain ⟨V, h1, h2⟩ := rep n hn (k + 992) (by omega)
  exact ⟨V, h1, by rw [h2]; unfold U; rw [p3]⟩
theorem one64U : (one64 : Int) = ((2 ^ 82 : Nat) : Int) * U := by rw [one64c]; unfold U; rw [p2]
theorem finC : DFin 4472406533629990549 ∧ zval b64 (val64 4472406533629990549) = 4835703278458517 * U := ⟨(fin_bits _).mpr (by decide), by unfold U; decide +kernel⟩
theorem cancel (M t K u w : Int) (hw : 0 ≤ w) (hu : 0 ≤ u) : (M * t ≤ K → (M * u) * (t * w) ≤ K * u * w) ∧ (K ≤ M * t → K * u * w ≤ (M * u) * (t * w)) := by
  have e : (M * u) * (t * w) = (M * t) * (u * w) := by ac_rfl
  rw [e, Int.mul_assoc K u w]
  exact ⟨fun h => Int.mul_le_mul_of_nonneg_right h (Int.mul_nonneg hu hw), fun h => Int.mul_le_mul_of_nonneg_right h (Int.mul_nonneg hu hw)⟩
/-- the product with 1e-9, between doubles -/
theorem prodB {T V : UInt64} {t K : Int} (hT : DFin T) (zT : zval b64 (val64 T) = t * (one64 : Int)) (hV : DFin V) (zV : zval b64 (val64 V) = K * U) :
    (4835703278458517 * t ≤ K → zval b64 (val64 (dmul 4472406533629990549 T)) ≤ zval b64 (val64 V)) ∧ (K ≤ 4835703278458517 * t → zval b64 (val64 V) ≤ zval b64 (val64 (dmul 4472406533629990549 T))) := by
  have b := mulB finC.1 hT hV
  have c := cancel 4835703278458517 t K U (one64 : Int) (Int.natCast_nonneg _) (Int.le_of_lt U_pos)
  rw [finC.2, zT, zV] at b
  rw [zV]
  exact ⟨fun h => b.1 (c.1 h), fun h => b.2 (c.2 h)⟩
def least (T : UInt64) : UInt64 := dsub (dsub T (dmul 4472406533629990549 T)) 4503599627370496
theorem dl2 (x k u : Int) : x * k * u = k * (x * u) := by rw [Int.mul_comm x k, Int.mul_assoc]
theorem one_law {t s : Int} {T H L : UInt64} (hT : DFin T) (zT : zval b64 (val64 T) = t * (one64 : Int)) (ht : 1 ≤ t) (ht2 : t < 2147483648) (hs : s * 1000000000 ≤ t ∧ t < (s + 1) * 1000000000) (hs0 : 0 ≤ s) (hH : DFin H) (zH : zval b64 (val64 H) = (t - s) * (one64 : Int)) (hL : DFin L) (zL : zval b64 (val64 L) = (t - s - 1) * (one64 : Int)) :
    DFin (dmul 4472406533629990549 T) ∧ DFin (dsub T (dmul 4472406533629990549 T)) ∧ DFin (least T) ∧ zval b64 (val64 (least T)) < zval b64 (val64 T) ∧ zval b64 (val64 (least T)) ≤ zval b64 (val64 H) ∧ zval b64 (val64 L) ≤ zval b64 (val64 (least T)) := by
  obtain ⟨V0, f0, z0⟩ := repU s 82 (by omega) (by decide)
  obtain ⟨V1, f1, z1⟩ := repU (s + 1) 82 (by omega) (by decide)
  have a0 := (prodB hT zT f0 z0).2 (by omega)
  have a1 := (prodB hT zT f1 z1).1 (by omega)
  have nP := (notNaN_iff _).mp (dmul_out finC.1 hT)
  have fP : DFin (dmul 4472406533629990549 T) := finBet nP f0 f1 a0 a1
  -- y
  have nY := (notNaN_iff _).mp (dsub_out hT.notNaN fP)
  have y1 := (subB hT fP hH).1
  have y0 := (subB hT fP hL).2
  have q1 : ∃ V : UInt64, ∃ W : UInt64, ∃ d : Int, 0 < d ∧ DFin V ∧ DFin W ∧ zval b64 (val64 W) = d * U ∧ zval b64 (val64 V) = (t * 4835703278458516698824704 - d) * U ∧ d ≤ 4835703278458517 * t := by
    by_cases h : t < 4194304
    · obtain ⟨V, fV, zV⟩ := repU (t * 1073741824 - 1) 52 (by omega) (by decide)
      obtain ⟨W, fW, zW⟩ := repU 1 52 (by decide) (by decide)
      refine ⟨V, W, 4503599627370496, by decide, fV, fW, by rw [zW]; rfl, ?_, by omega⟩
      rw [zV]; congr 1; show (t * 1073741824 - 1) * 4503599627370496 = _; omega
    · obtain ⟨V, fV, zV⟩ := repU (t * 256 - 1) 74 (by omega) (by decide)
      obtain ⟨W, fW, zW⟩ := repU 1 74 (by decide) (by decide)
      refine ⟨V, W, 18889465931478580854784, by decide, fV, fW, by rw [zW]; rfl, ?_, by omega⟩
      rw [zV]; congr 1; show (t * 256 - 1) * 18889465931478580854784 = _; omega
  obtain ⟨V, W, d, hd, fV, fW, zW, zV, hdM⟩ := q1
  have a2 := (prodB hT zT fW zW).2 hdM
  have hU := U_pos
  have e82 : ((2 ^ 82 : Nat) : Int) = 4835703278458516698824704 := by decide
  have yV := (subB hT fP fV).1
  rw [one64U, e82] at zT zH zL
  rw [e82] at z0 z1
  -- distribute
  have zT' : zval b64 (val64 T) = 4835703278458516698824704 * (t * U) := by rw [zT, Int.mul_left_comm]
  have zH' : zval b64 (val64 H) = 4835703278458516698824704 * (t * U) - 4835703278458516698824704 * (s * U) := by rw [zH, Int.sub_mul, Int.mul_left_comm t, Int.mul_left_comm s]
  have zL' : zval b64 (val64 L) = 4835703278458516698824704 * (t * U) - 4835703278458516698824704 * (s * U) - 4835703278458516698824704 * U := by rw [zL, Int.sub_mul, Int.sub_mul, Int.one_mul, Int.mul_left_comm t, Int.mul_left_comm s]
  have z0' : zval b64 (val64 V0) = 4835703278458516698824704 * (s * U) := by rw [z0, dl2]
  have z1' : zval b64 (val64 V1) = 4835703278458516698824704 * (s * U) + 4835703278458516698824704 * U := by rw [z1, Int.add_mul, Int.add_mul, Int.one_mul, dl2]
  have zV' : zval b64 (val64 V) = 4835703278458516698824704 * (t * U) - d * U := by rw [zV, Int.sub_mul, dl2]
  have hdU : 0 < d * U := Int.mul_pos hd hU
  have yH : zval b64 (val64 (dsub T (dmul 4472406533629990549 T))) ≤ zval b64 (val64 H) := y1 (by omega)
  have yL : zval b64 (val64 L) ≤ zval b64 (val64 (dsub T (dmul 4472406533629990549 T))) := y0 (by omega)
  have yV : zval b64 (val64 (dsub T (dmul 4472406533629990549 T))) ≤ zval b64 (val64 V) := yV (by omega)
  have fY : DFin (dsub T (dmul 4472406533629990549 T)) := finBet nY hL hH yL yH
  have nR := (notNaN_iff _).mp (dsub_out fY.notNaN finN.1)
  have r1 := (subB fY finN.1 hH).1
  have r2 := (subB fY finN.1 hL).2
  have r3 := (subB fY finN.1 fV).1
  rw [finN.2] at r1 r2 r3
  have rH : zval b64 (val64 (least T)) ≤ zval b64 (val64 H) := r1 (by omega)
  have rV : zval b64 (val64 (least T)) ≤ zval b64 (val64 V) := r3 (by omega)
  have rL : zval b64 (val64 L) ≤ zval b64 (val64 (least T)) := by
    by_cases h : t - s - 1 ≤ 0
    · have ht1 : t = 1 := by omega
      have hs1 : s = 0 := by omega
      subst ht1 hs1
      obtain ⟨V2, f2, z2⟩ := repU 1 81 (by decide) (by decide)
      have e81 : ((2 ^ 81 : Nat) : Int) = 2417851639229258349412352 := by decide
      rw [e81] at z2
      have a3 := (prodB hT (by rw [zT, one64U, e82]) f2 z2).1 (by omega)
      have y2 := (subB hT fP f2).2 (by omega)
      have hU2 : 4503599627370496 ≤ U := by unfold U; decide +kernel
      exact r2 (by omega)
    · refine Int.le_trans yL (absorb fY (Int.le_trans ?_ yL))
      have e74 : ((2 ^ 1074 : Nat) : Int) = 4835703278458516698824704 * U := by have := one64U; rw [one64c, e82] at this; exact this
      rw [e74, zL]
      have h2 : 1 ≤ t - s - 1 := by omega
      have h3 := Int.mul_le_mul_of_nonneg_right h2 (Int.le_of_lt (show (0 : Int) < 4835703278458516698824704 * U by omega))
      rw [Int.one_mul] at h3
      exact h3
  exact ⟨fP, fY, finBet nR hL hH rL rH, by omega, rH, rL⟩
/-- a scale: 2^30 g is worth 1 -/
theorem repG {g : Int} (e : Nat) (hg : g = ((2 ^ e : Nat) : Int)) (he : e ≤ 1100) (n : Int) (k : Nat) (hk : k ≤ 30) (hn : n.natAbs < 2 ^ 53) {N : Int} (hN : N = n * ((2 ^ k : Nat) : Int)) : ∃ V : UInt64, DFin V ∧ zval b64 (val64 V) = N * g := by
  obtain ⟨V, h1, h2⟩ := rep n hn (k + e) (by omega)
  exact ⟨V, h1, by rw [h2, hN, hg, p3]⟩
theorem prodG {T V : UInt64} {g t N : Int} (hg : 0 ≤ g) (hT : DFin T) (zT : zval b64 (val64 T) = t * 1073741824 * g) (hV : DFin V) (zV : zval b64 (val64 V) = N * g) :
    (4835703278458517 * t ≤ N * 4503599627370496 → zval b64 (val64 (dmul 4472406533629990549 T)) ≤ zval b64 (val64 V)) ∧ (N * 4503599627370496 ≤ 4835703278458517 * t → zval b64 (val64 V) ≤ zval b64 (val64 (dmul 4472406533629990549 T))) := by
  have b := mulB finC.1 hT hV
  have e82 : ((2 ^ 82 : Nat) : Int) = 4835703278458516698824704 := by decide
  have c1 := cancel (4835703278458517 * t * 1073741824) 1 (N * 4835703278458516698824704) U g hg (Int.le_of_lt U_pos)
  rw [finC.2, zT, zV, one64U, e82] at b
  rw [zV]
  have f1 : 4835703278458517 * U * (t * 1073741824 * g) = 4835703278458517 * t * 1073741824 * U * (1 * g) := by
    rw [Int.one_mul]; generalize U = u; grind
  have f2 : N * g * (4835703278458516698824704 * U) = N * 4835703278458516698824704 * U * g := by
    generalize U = u; grind
  rw [f1, f2] at b
  exact ⟨fun h => b.1 (c1.1 (by omega)), fun h => b.2 (c1.2 (by omega))⟩
theorem two_law {g : Int} (e : Nat) (hg : g = ((2 ^ e : Nat) : Int)) (he : e ≤ 1100) {fl t r : Int} {T R : UInt64} (hfl : (fl = 0 ∧ 4503599627370496 ≤ g) ∨ (fl = 1 ∧ 1073741824 * g = 4503599627370496)) (hT : DFin T) (zT : zval b64 (val64 T) = t * 1073741824 * g) (hR : DFin R) (zR : zval b64 (val64 R) = r * 1073741824 * g) (ht : 0 ≤ t) (ht2 : t < 2147483648) (hr : 0 ≤ r) (hr2 : r < 2147484000) :
    DFin (dmul 4472406533629990549 T) ∧ DFin (dsub T (dmul 4472406533629990549 T)) ∧ DFin (least T) ∧ (t ≤ r → zval b64 (val64 (least T)) ≤ zval b64 (val64 R)) ∧ (r < t → t / 65536 + 16 ≤ (r - t + fl) * 1000000000 + t → zval b64 (val64 (least T)) ≤ zval b64 (val64 R)) ∧ (r < t → (r - t + fl) * 1000000000 + t ≤ -(t / 65536 + 16) → zval b64 (val64 R) < zval b64 (val64 (least T))) := by
  have g0 : 0 < g := by rw [hg]; exact Int.natCast_pos.mpr (Nat.two_pow_pos _)
  have g0' := Int.le_of_lt g0
  have fl01 : 0 ≤ fl ∧ fl ≤ 1 := by omega
  have p0 := (prodG g0' hT zT fin0.1 (N := 0) (by rw [fin0.2, Int.zero_mul])).2 (by omega)
  have p1 := (prodG g0' hT zT hT (N := t * 1073741824) zT).1 (by omega)
  have nP := (notNaN_iff _).mp (dmul_out finC.1 hT)
  have fP : DFin (dmul 4472406533629990549 T) := finBet nP fin0.1 hT p0 p1
  have nY := (notNaN_iff _).mp (dsub_out hT.notNaN fP)
  rw [fin0.2] at p0
  have y0 := (subB hT fP fin0.1).2 (by rw [fin0.2]; omega)
  have y1 := (subB hT fP hT).1 (by omega)
  have fY : DFin (dsub T (dmul 4472406533629990549 T)) := finBet nY fin0.1 hT y0 y1
  rw [fin0.2] at y0
  have nR := (notNaN_iff _).mp (dsub_out fY.notNaN finN.1)
  have hneg := neg finN.1
  have e52 : ((2 ^ 52 : Nat) : Int) = 4503599627370496 := by decide
  have r0 := (subB fY finN.1 hneg.1).2 (by rw [hneg.2]; omega)
  have r1 := (subB fY finN.1 hT).1 (by rw [finN.2]; omega)
  have fR : DFin (least T) := finBet nR hneg.1 hT r0 r1
  have zT' : zval b64 (val64 T) = 1073741824 * (t * g) := by rw [zT, dl2]
  have zR' : zval b64 (val64 R) = 1073741824 * (r * g) := by rw [zR, dl2]
  refine ⟨fP, fY, fR, fun h => ?_, fun h1 h2 => ?_, fun h1 h2 => ?_⟩
  · have := Int.mul_le_mul_of_nonneg_right h g0'
    exact Int.le_trans r1 (by omega)
  · obtain ⟨V, fV, zV⟩ := repG e hg he (t - r - fl) 30 (by decide) (by omega) (N := (t - r - fl) * 1073741824) rfl
    obtain ⟨W, fW, zW⟩ := repG e hg he (r + fl) 30 (by decide) (by omega) (N := (r + fl) * 1073741824) rfl
    have q1 := (prodG g0' hT zT fV zV).2 (by omega)
    have zV' : zval b64 (val64 V) = 1073741824 * (t * g) - 1073741824 * (r * g) - 1073741824 * (fl * g) := by rw [zV, dl2, Int.sub_mul, Int.sub_mul, Int.mul_sub, Int.mul_sub]
    have zW' : zval b64 (val64 W) = 1073741824 * (r * g) + 1073741824 * (fl * g) := by rw [zW, dl2, Int.add_mul, Int.mul_add]
    have q2 := (subB hT fP fW).1 (by omega)
    refine (subB fY finN.1 hR).1 ?_
    rw [finN.2, e52]
    rcases hfl with ⟨rfl, hb⟩ | ⟨rfl, hb⟩ <;> omega
  · -- the step: 2^k
    obtain ⟨k, a, hk, hk1, ha, b1, b2, b3, hm⟩ : ∃ (k : Nat) (a : Int), 1 ≤ k ∧ k ≤ 30 ∧ a = ((2 ^ k : Nat) : Int) ∧ (∃ n : Int, n.natAbs < 2 ^ 53 ∧ (t - r - fl) * 1073741824 - a = n * ((2 ^ k : Nat) : Int)) ∧ (∃ n : Int, n.natAbs < 2 ^ 53 ∧ (r + fl) * 1073741824 + a = n * ((2 ^ k : Nat) : Int)) ∧ (∃ n : Int, ∃ a' : Int, 2 * a' = a ∧ 1 ≤ a' ∧ n.natAbs < 2 ^ 53 ∧ r * 1073741824 + a' = n * ((2 ^ (k - 1) : Nat) : Int)) ∧ 4835703278458517 * t ≤ ((t - r - fl) * 1073741824 - a) * 4503599627370496 := by
      by_cases c1 : t < 16777216
      · exact ⟨3, 8, by decide, by decide, by decide, ⟨(t - r - fl) * 134217728 - 1, by omega, by show _ = _ * (8 : Int); omega⟩, ⟨(r + fl) * 134217728 + 1, by omega, by show _ = _ * (8 : Int); omega⟩, ⟨r * 268435456 + 1, 4, by decide, by decide, by omega, by show _ = _ * (4 : Int); omega⟩, by omega⟩
      · by_cases c2 : t < 67108864
        · exact ⟨8, 256, by decide, by decide, by decide, ⟨(t - r - fl) * 4194304 - 1, by omega, by show _ = _ * (256 : Int); omega⟩, ⟨(r + fl) * 4194304 + 1, by omega, by show _ = _ * (256 : Int); omega⟩, ⟨r * 8388608 + 1, 128, by decide, by decide, by omega, by show _ = _ * (128 : Int); omega⟩, by omega⟩
        · exact ⟨10, 1024, by decide, by decide, by decide, ⟨(t - r - fl) * 1048576 - 1, by omega, by show _ = _ * (1024 : Int); omega⟩, ⟨(r + fl) * 1048576 + 1, by omega, by show _ = _ * (1024 : Int); omega⟩, ⟨r * 2097152 + 1, 512, by decide, by decide, by omega, by show _ = _ * (512 : Int); omega⟩, by omega⟩
    obtain ⟨n1, hn1, en1⟩ := b1
    obtain ⟨n2, hn2, en2⟩ := b2
    obtain ⟨n3, a', ha', ha1, hn3, en3⟩ := b3
    obtain ⟨V, fV, zV⟩ := repG e hg he n1 k hk1 hn1 en1
    obtain ⟨W, fW, zW⟩ := repG e hg he n2 k hk1 hn2 en2
    obtain ⟨Y, fY', zY⟩ := repG e hg he n3 (k - 1) (by omega) hn3 en3
    have q1 := (prodG g0' hT zT fV zV).1 hm
    have zV' : zval b64 (val64 V) = 1073741824 * (t * g) - 1073741824 * (r * g) - 1073741824 * (fl * g) - a * g := by rw [zV, Int.sub_mul, dl2, Int.sub_mul, Int.sub_mul, Int.mul_sub, Int.mul_sub]
    have zW' : zval b64 (val64 W) = 1073741824 * (r * g) + 1073741824 * (fl * g) + a * g := by rw [zW, Int.add_mul, dl2, Int.add_mul, Int.mul_add]
    have zY' : zval b64 (val64 Y) = 1073741824 * (r * g) + a' * g := by rw [zY, Int.add_mul, dl2]
    have hag : a * g = 2 * (a' * g) := by rw [← ha', Int.mul_assoc]
    have hag1 : g ≤ a' * g := by have := Int.mul_le_mul_of_nonneg_right ha1 g0'; rw [Int.one_mul] at this; exact this
    have q2 := (subB hT fP fW).2 (by omega)
    have q3 := (subB fY finN.1 fY').2 (by
      rw [finN.2, e52]
      rcases hfl with ⟨rfl, hb⟩ | ⟨rfl, hb⟩ <;> omega)
    exact Int.lt_of_lt_of_le (by omega) q3
end Own
namespace Jvm.Pilot.@@N@@
open Jvm Jvm.ClassFile Sem Op Lib Jvm.Free Jvm.Stand Jvm.LawKit Jvm.RoadKit Bundle Jvm.Pilot.@@N@@.Jvm.D
theorem own_lt {a b : UInt64} (ha : FP.Core.DFin a) (hb : FP.Core.DFin b) (h : FP.Core.zval FP.Core.b64 (FP.Core.val64 a) < FP.Core.zval FP.Core.b64 (FP.Core.val64 b)) (o : Jvm.ClassFile.CmpOp) : cmpValue (FP.dcmp a b) o < (0 : Int32) := by
  rw [show FP.dcmp a b = some .lt from FP.Core.dcmp_lt.mpr ⟨ha.ne_nan, hb.ne_nan, h⟩]
  cases o <;> decide
theorem own_le {a b : UInt64} (ha : FP.Core.DFin a) (hb : FP.Core.DFin b) (h : FP.Core.zval FP.Core.b64 (FP.Core.val64 a) ≤ FP.Core.zval FP.Core.b64 (FP.Core.val64 b)) (o : Jvm.ClassFile.CmpOp) : ¬ (0 : Int32) < cmpValue (FP.dcmp a b) o := by
  rcases FP.Core.dcmp_le.mpr ⟨ha.ne_nan, hb.ne_nan, h⟩ with q | q
  · rw [show FP.dcmp a b = some .lt from q]; cases o <;> decide
  · rw [show FP.dcmp a b = some .eq from q]; cases o <;> decide
theorem own_ge {a b : UInt64} (ha : FP.Core.DFin a) (hb : FP.Core.DFin b) (h : FP.Core.zval FP.Core.b64 (FP.Core.val64 b) ≤ FP.Core.zval FP.Core.b64 (FP.Core.val64 a)) (o : Jvm.ClassFile.CmpOp) : ¬ cmpValue (FP.dcmp a b) o < (0 : Int32) := by
  rcases FP.Core.dcmp_ge.mpr ⟨ha.ne_nan, hb.ne_nan, h⟩ with q | q
  · rw [show FP.dcmp a b = some .gt from q]; cases o <;> decide
  · rw [show FP.dcmp a b = some .eq from q]; cases o <;> decide
theorem own_sc1 {x : Int64} (h : x.toInt.natAbs < 2 ^ 53) : FP.Core.DFin (FP.Core.dmul (FP.Core.l2d x) 4607182418800017408) ∧ FP.Core.zval FP.Core.b64 (FP.Core.val64 (FP.Core.dmul (FP.Core.l2d x) 4607182418800017408)) = x.toInt * 1073741824 * ((2 ^ 1044 : Nat) : Int) := by
  have f1 : FP.Core.DFin 4607182418800017408 ∧ FP.Core.zval FP.Core.b64 (FP.Core.val64 4607182418800017408) = ((2 ^ 1074 : Nat) : Int) := ⟨(FP.Core.fin_bits _).mpr (by decide), by decide +kernel⟩
  have e : x.toInt * 1073741824 * ((2 ^ 1044 : Nat) : Int) = x.toInt * ((2 ^ 1074 : Nat) : Int) := Own.p3 x.toInt 30 1044
  rw [e]
  exact Own.mul (FP.Core.l2d_fin x) f1.1 (by rw [FP.Core.DInt_zval (FP.Core.l2d_int (Nat.le_of_lt h)), f1.2, Own.one64c]) (Own.rep _ h _ (by omega))
theorem own_sc2 {x : Int64} (h : x.toInt.natAbs < 2 ^ 53) : FP.Core.DFin (FP.Core.dmul (FP.Core.l2d x) 4503599627370496) ∧ FP.Core.zval FP.Core.b64 (FP.Core.val64 (FP.Core.dmul (FP.Core.l2d x) 4503599627370496)) = x.toInt * 1073741824 * ((2 ^ 22 : Nat) : Int) := by
  have e : x.toInt * 1073741824 * ((2 ^ 22 : Nat) : Int) = x.toInt * ((2 ^ 52 : Nat) : Int) := Own.p3 x.toInt 30 22
  rw [e]
  refine Own.mul (FP.Core.l2d_fin x) Own.finN.1 ?_ (Own.rep _ h _ (by omega))
  rw [FP.Core.DInt_zval (FP.Core.l2d_int (Nat.le_of_lt h)), Own.finN.2]
  exact Int.mul_right_comm _ _ _
/-- what the law asks of mayReach -/
def own_G (t r fl d mg : Int64) (sc : UInt64) : Prop := FP.Core.DFin (FP.Core.dmul (FP.Core.l2d r) sc) ∧ FP.Core.DFin (FP.Core.dmul (FP.Core.l2d t) sc) ∧ FP.Core.DFin (FP.Core.dmul 4472406533629990549 (FP.Core.dmul (FP.Core.l2d t) sc)) ∧ FP.Core.DFin (FP.Core.dsub (FP.Core.dmul (FP.Core.l2d t) sc) (FP.Core.dmul 4472406533629990549 (FP.Core.dmul (FP.Core.l2d t) sc))) ∧ FP.Core.DFin (Own.least (FP.Core.dmul (FP.Core.l2d t) sc)) ∧
  (¬ r < t → ¬ cmpValue (FP.dcmp (FP.dmul (FP.l2d r) sc) (Own.least (FP.dmul (FP.l2d t) sc))) .l < (0 : Int32)) ∧ (r < t → ¬ d < mg → ¬ cmpValue (FP.dcmp (FP.dmul (FP.l2d r) sc) (Own.least (FP.dmul (FP.l2d t) sc))) .l < (0 : Int32)) ∧ (r < t → ¬ (-mg) < d → cmpValue (FP.dcmp (FP.dmul (FP.l2d r) sc) (Own.least (FP.dmul (FP.l2d t) sc))) .l < (0 : Int32))
theorem own_int {t r fl d mg : Int64} (ht : 0 ≤ t.toInt ∧ t.toInt < 2147483648) (hr : 0 ≤ r.toInt ∧ r.toInt < 2147484000) (hf : fl = 0 ∨ fl = 1) (ed : d = ((((r - t) + fl) * (1000000000 : Int64)) + t)) (em : mg = ((t >>> ((16 : Int32) &&& 0x3f).toInt64) + (16 : Int64))) :
    d.toInt = (r.toInt - t.toInt + fl.toInt) * 1000000000 + t.toInt ∧ mg.toInt = t.toInt / 65536 + 16 ∧ (-mg).toInt = -(t.toInt / 65536 + 16) := by
  have f : 0 ≤ fl.toInt ∧ fl.toInt ≤ 1 := by rcases hf with h | h <;> rw [h] <;> decide
  have h1 := c_lsub r t
  have h2 := c_ladd (r - t) fl
  have h3 := c_lmul ((r - t) + fl) (1000000000 : Int64)
  have h4 := c_ladd (((r - t) + fl) * (1000000000 : Int64)) t
  have h5 := c_lshr t (16 : Int32) 16 (by decide)
  have h6 := c_ladd (t >>> ((16 : Int32) &&& 0x3f).toInt64) (16 : Int64)
  have h7 := c_lneg mg
  rw [← ed] at h4
  rw [← em] at h6
  rw [show (1000000000 : Int64).toInt = 1000000000 from by decide] at h3
  rw [show (16 : Int64).toInt = 16 from by decide] at h6
  have r1 := rng64 (r - t)
  have r2 := rng64 ((r - t) + fl)
  have r3 := rng64 (((r - t) + fl) * (1000000000 : Int64))
  have r4 := rng64 d
  have r5 := rng64 mg
  have r6 := rng64 (-mg)
  have e1 : (r - t).toInt = r.toInt - t.toInt := by omega
  have e2 : ((r - t) + fl).toInt = r.toInt - t.toInt + fl.toInt := by omega
  rw [e2] at h3
  have e3 : (((r - t) + fl) * (1000000000 : Int64)).toInt = (r.toInt - t.toInt + fl.toInt) * 1000000000 := by omega
  have h5' : (t >>> ((16 : Int32) &&& 0x3f).toInt64).toInt = t.toInt / 65536 := h5
  refine ⟨by omega, by omega, by omega⟩
theorem own_two {t r fl d mg : Int64} {sc : UInt64} (ht : 0 ≤ t.toInt ∧ t.toInt < 2147483648) (hr : 0 ≤ r.toInt ∧ r.toInt < 2147484000) (hf : (fl = 0 ∧ sc = 4607182418800017408) ∨ (fl = 1 ∧ sc = 4503599627370496)) (ed : d = ((((r - t) + fl) * (1000000000 : Int64)) + t)) (em : mg = ((t >>> ((16 : Int32) &&& 0x3f).toInt64) + (16 : Int64))) : own_G t r fl d mg sc := by
  obtain ⟨i1, i2, i3⟩ := own_int ht hr (hf.imp (·.1) (·.1)) ed em
  unfold own_G
  simp only [Int64.lt_iff_toInt_lt]
  rcases hf with ⟨rfl, rfl⟩ | ⟨rfl, rfl⟩
  · have fr := own_sc1 (x := r) (by omega)
    have ft := own_sc1 (x := t) (by omega)
    have L := Own.two_law (g := ((2 ^ 1044 : Nat) : Int)) 1044 rfl (by decide) (fl := 0) (Or.inl ⟨rfl, by decide +kernel⟩) ft.1 ft.2 fr.1 fr.2 ht.1 ht.2 hr.1 hr.2
    rw [show (0 : Int64).toInt = 0 from by decide] at i1
    exact ⟨fr.1, ft.1, L.1, L.2.1, L.2.2.1, fun h => own_ge fr.1 L.2.2.1 (L.2.2.2.1 (by omega)) _, fun h h' => own_ge fr.1 L.2.2.1 (L.2.2.2.2.1 (by omega) (by omega)) _, fun h h' => own_lt fr.1 L.2.2.1 (L.2.2.2.2.2 (by omega) (by omega)) _⟩
  · have fr := own_sc2 (x := r) (by omega)
    have ft := own_sc2 (x := t) (by omega)
    have L := Own.two_law (g := ((2 ^ 22 : Nat) : Int)) 22 rfl (by decide) (fl := 1) (Or.inr ⟨rfl, by decide +kernel⟩) ft.1 ft.2 fr.1 fr.2 ht.1 ht.2 hr.1 hr.2
    rw [show (1 : Int64).toInt = 1 from by decide] at i1
    exact ⟨fr.1, ft.1, L.1, L.2.1, L.2.2.1, fun h => own_ge fr.1 L.2.2.1 (L.2.2.2.1 (by omega)) _, fun h h' => own_ge fr.1 L.2.2.1 (L.2.2.2.2.1 (by omega) (by omega)) _, fun h h' => own_lt fr.1 L.2.2.1 (L.2.2.2.2.2 (by omega) (by omega)) _⟩
def own_X (x y : Int64) : Int64 := if x < y then y else x
theorem own_xi (x y : Int64) : (own_X x y).toInt = max x.toInt y.toInt := by
  unfold own_X
  simp only [Int64.lt_iff_toInt_lt]
  split <;> omega
theorem own_t {p0 : Int32} {t : Int64} (e : t = (p0.toInt64 &&& (2147483647 : Int64))) : 0 ≤ t.toInt ∧ t.toInt < 2147483648 := by
  have h := c_maskL p0.toInt64 (2147483647 : Int64) 31 (by decide) (by decide)
  rw [e]; omega
theorem own_r1 {p1 : Int32} {t x r : Int64} (ht : 0 ≤ t.toInt ∧ t.toInt < 2147483648) (e : x = (t - ((p1 % (8 : Int32)).toInt64))) (er : r = (own_X (0 : Int64) x)) : 0 ≤ r.toInt ∧ r.toInt < 2147484000 := by
  have h1 := own_xi (0 : Int64) x
  have h2 := c_lsub t ((p1 % (8 : Int32)).toInt64)
  have h3 := c_i2l (p1 % (8 : Int32))
  have h4 : (p1 % (8 : Int32)).toInt = p1.toInt.tmod 8 := Int32.toInt_mod p1 8
  have h5 : -8 < p1.toInt.tmod 8 ∧ p1.toInt.tmod 8 < 8 := ⟨Int.lt_tmod_of_pos _ (by decide), Int.tmod_lt_of_pos _ (by decide)⟩
  have r1 := rng64 (t - ((p1 % (8 : Int32)).toInt64))
  rw [show (0 : Int64).toInt = 0 from by decide] at h1
  rw [er, e]
  rw [e] at h1
  omega
theorem own_r2 {p1 : Int32} {x r : Int64} (e : x = (p1.toInt64 &&& (2147483647 : Int64))) (er : r = (own_X (0 : Int64) x)) : 0 ≤ r.toInt ∧ r.toInt < 2147484000 := by
  have h := own_t e
  have h1 := own_xi (0 : Int64) x
  rw [show (0 : Int64).toInt = 0 from by decide] at h1
  rw [er]; omega

theorem own_nn {x : UInt64} (h : FP.Core.DFin x) : Jvm.Free.Fl.NoNaN64 x := Jvm.Free.Fl.noNaN64_no.mpr h.notNaN
theorem d1_0 : decode jdk_29_method_66_code 0 = .ok (.lload_n 0, 1) := by decide +kernel
theorem d1_1 : decode jdk_29_method_66_code 1 = .ok (.lload_n 2, 1) := by decide +kernel
theorem d1_2 : decode jdk_29_method_66_code 2 = .ok (.lcmp, 1) := by decide +kernel
theorem d1_3 : decode jdk_29_method_66_code 3 = .ok (.ifCond .lt 7, 3) := by decide +kernel
theorem d1_6 : decode jdk_29_method_66_code 6 = .ok (.lload_n 0, 1) := by decide +kernel
theorem d1_7 : decode jdk_29_method_66_code 7 = .ok (.goto 4, 3) := by decide +kernel
theorem d1_10 : decode jdk_29_method_66_code 10 = .ok (.lload_n 2, 1) := by decide +kernel
theorem d1_11 : decode jdk_29_method_66_code 11 = .ok (.lreturn, 1) := by decide +kernel
theorem ef_1 (m : MethodId) (q0 : Int64) (q1 : Int64)  : entryFrame m #[(.long q0), (.long q1)] 4 = mkF m 0 #[.val (.long q0), .second, .val (.long q1), .second] [] := by first | (simp [entryFrame, mkF, argsToLocals, Value.category]; done) | rfl
def Q1 (Z : State) (q0 : Int64) (q1 : Int64) (h0 : Heap) (n0 : Nat) (v : Option Value) (h : Heap) (L : List Loc) : Prop := v = some (.long (own_X q0 q1)) ∧ Fr n0 L ∧ h = h0
set_option maxRecDepth 65536 in
set_option maxHeartbeats 40000000 in
theorem rm1 (l : Launch) (Z : State) (a0 : Array Value) (hw : ∀ d ∈ tables_1, d.before a0 Z = true) (ws : List Jvm.Cond) (q0 : Int64) (q1 : Int64) (h0 : Heap) (n0 : Nat) (Z0 : n0 ≤ h0.size) :
    MetFree l (⟨"java/lang/Math", "max", "(JJ)J"⟩ : MethodName) (head1 (Jvm.Cond.code (⟨"java/lang/Math", "max", "(JJ)J"⟩ : MethodName) jdk_29_method_66_code 4 (some .long) :: ws) ({ frames := 0, cells := 0, slots := 0, locals := 0 } : Room)) (fun a U => a = #[(.long q0), (.long q1)] ∧ Z.Warmed39 U.vm ∧ U.heap = h0) (fun _ _ _ _ _ => True) (fun _ U o U' => ∃ v L, o = .returned v ∧ Q1 Z q0 q1 h0 n0 v U'.heap L ∧ FrameEnd U o U' L ({ frames := 0, cells := 0, slots := 0, locals := 0 } : Room).cells ({ frames := 0, cells := 0, slots := 0, locals := 0 } : Room).slots) := by
  refine MetFree.of_bodySF (Jvm.Free.JP.mathPlain rfl (by decide +kernel)) hisR ?_
  intro p e s m args below meth c s₁ Bd hml0 hP hK
  obtain ⟨rfl, hZ, hh⟩ := hP
  have hx := Bd.exec
  have hby := Bd.bytes
  have hml : c.maxLocals = 4 := hml0
  have hown : s.vm.findClass "java/lang/Math" = some m.cls := findClass_of_methodNamed Bd.named
  have hnm := (name_of_methodNamed Bd.named Bd.method).1
  have X0 : Stand p l e ({ frames := 0, cells := 0, slots := 0, locals := 0 } : Room) s m #[(.long q0), (.long q1)] below meth c s₁ [] 0 0 := Stand.of_body Bd
  have e0 : s₁.heap = h0 := by rw [← hh, Bd.state]; rfl
  have N0 := Fr.nil n0
  have pre0 : ∀ t, Steps p.tables e below (s₁.setTop (mkF m 0 #[.val (.long q0), .second, .val (.long q1), .second] [])) t → Steps p.tables e below (s₁.setTop (entryFrame m #[(.long q0), (.long q1)] 4)) t := fun t k => castTop (ef_1 m q0 q1) k
  show Done p e below _ _
  refine Done.of ?_ pre0
  have J3_1 : ∀ wj : Int64, wj = (if q0 < q1 then q1 else q0) → ∀ target, Steps p.tables e below (s₁.setTop (mkF m 11 #[.val (.long q0), .second, .val (.long q1), .second] [(.long wj)])) target → Steps p.tables e below (s₁.setTop (mkF m 3 #[.val (.long q0), .second, .val (.long q1), .second] [(.int (lcmpW q0 q1))])) target := by
    intro wj hw0 target kt
    by_cases hj3 : q0 < q1
    · rw [if_pos hj3] at hw0
      show Steps p.tables e below (s₁.setTop (mkF m 3 #[.val (.long q0), .second, .val (.long q1), .second] [(.int (lcmpW q0 q1))])) _
      refine XS.ifYes X0.here hx rfl (pc0 := 3) (pc' := 10) rfl (hb hby d1_3) rfl ((if0 _ _).trans (tlt ((lw_lt q0 q1).mpr hj3)).1) (by decide) (by decide) ?_
      show Steps p.tables e below (s₁.setTop (mkF m 10 #[.val (.long q0), .second, .val (.long q1), .second] [])) _
      refine XS.lloadN X0.here hx rfl (hb hby d1_10) rfl ?_
      rw [hw0] at kt
      exact kt
    · rw [if_neg hj3] at hw0
      show Steps p.tables e below (s₁.setTop (mkF m 3 #[.val (.long q0), .second, .val (.long q1), .second] [(.int (lcmpW q0 q1))])) _
      refine XS.ifNo X0.here hx rfl (hb hby d1_3) rfl ((if0 _ _).trans (flt (fun q => hj3 ((lw_lt q0 q1).mp q))).1) ?_
      show Steps p.tables e below (s₁.setTop (mkF m 6 #[.val (.long q0), .second, .val (.long q1), .second] [])) _
      refine XS.lloadN X0.here hx rfl (hb hby d1_6) rfl ?_
      show Steps p.tables e below (s₁.setTop (mkF m 7 #[.val (.long q0), .second, .val (.long q1), .second] [(.long q0)])) _
      refine XS.goto X0.here hx rfl (pc0 := 7) (pc' := 11) rfl (hb hby d1_7) (by decide) (by decide) ?_
      rw [hw0] at kt
      exact kt
  obtain ⟨fs, hr, hrun, hended, hW, hsame⟩ := X0.leave (v := some (.long (if q0 < q1 then q1 else q0))) (fun h => by rw [Bd.returns] at h; cases h)
  refine ⟨_, _, ?_, hrun, hended, _, _, rfl, ?_, ⟨_, rfl⟩, hW, hsame.mono (by decide) (by decide)⟩
  · show Steps p.tables e below (s₁.setTop (mkF m 0 #[.val (.long q0), .second, .val (.long q1), .second] [])) _
    refine XS.lloadN X0.here hx rfl (hb hby d1_0) rfl ?_
    show Steps p.tables e below (s₁.setTop (mkF m 1 #[.val (.long q0), .second, .val (.long q1), .second] [(.long q0)])) _
    refine XS.lloadN X0.here hx rfl (hb hby d1_1) rfl ?_
    show Steps p.tables e below (s₁.setTop (mkF m 2 #[.val (.long q0), .second, .val (.long q1), .second] [(.long q1), (.long q0)])) _
    refine XS.lcmp X0.here hx rfl (hb hby d1_2) rfl ?_
    show Steps p.tables e below (s₁.setTop (mkF m 3 #[.val (.long q0), .second, .val (.long q1), .second] [(.int (lcmpW q0 q1))])) _
    refine J3_1 _ rfl _ ?_
    show Steps p.tables e below (s₁.setTop (mkF m 11 #[.val (.long q0), .second, .val (.long q1), .second] [(.long (if q0 < q1 then q1 else q0))])) _
    jvm_step X0.here [X0.here.top, hx, (hb hby d1_11), X0.method', Bd.returns, narrow]
    first | (intro acts; rw [hr _ acts rfl rfl rfl]) | rw [hr _ _ rfl rfl rfl]
    exact Steps.refl _
  · show Q1 Z q0 q1  h0 n0 _ s₁.heap _
    rw [e0]
    refine ⟨?_, N0, rfl⟩
    rfl
theorem d3_0 : decode prog_35_method_5_code 0 = .ok (.dload_n 0, 1) := by decide +kernel
theorem d3_1 : decode prog_35_method_5_code 1 = .ok (.ldc2_w 75, 3) := by decide +kernel
theorem d3_4 : decode prog_35_method_5_code 4 = .ok (.dload_n 0, 1) := by decide +kernel
theorem d3_5 : decode prog_35_method_5_code 5 = .ok (.dmul, 1) := by decide +kernel
theorem d3_6 : decode prog_35_method_5_code 6 = .ok (.dsub, 1) := by decide +kernel
theorem d3_7 : decode prog_35_method_5_code 7 = .ok (.ldc2_w 79, 3) := by decide +kernel
theorem d3_10 : decode prog_35_method_5_code 10 = .ok (.dsub, 1) := by decide +kernel
theorem d3_11 : decode prog_35_method_5_code 11 = .ok (.dreturn, 1) := by decide +kernel
theorem pn_3 : plainName "com/example/lotwise/lotwise/Relaxation" = true := by first | (simp [plainName, overriddenIn]; done) | decide +kernel
theorem ef_3 (m : MethodId) (r0 : UInt64)  : entryFrame m #[(.double r0)] 2 = mkF m 0 #[.val (.double r0), .second] [] := by first | (simp [entryFrame, mkF, argsToLocals, Value.category]; done) | rfl
def Q3 (Z : State) (r0 : UInt64) (h0 : Heap) (n0 : Nat) (v : Option Value) (h : Heap) (L : List Loc) : Prop := v = some (.double (Own.least r0)) ∧ Fr n0 L ∧ h = h0
set_option maxRecDepth 65536 in
set_option maxHeartbeats 40000000 in
theorem rm3 (l : Launch) (Z : State) (a0 : Array Value) (hw : ∀ d ∈ tables_1, d.before a0 Z = true) (ws : List Jvm.Cond) (r0 : UInt64) (h0 : Heap) (n0 : Nat) (Z0 : n0 ≤ h0.size) (f1 : FP.Core.DFin (FP.Core.dmul 4472406533629990549 r0)) (f2 : FP.Core.DFin (FP.Core.dsub r0 (FP.Core.dmul 4472406533629990549 r0))) (f3 : FP.Core.DFin (Own.least r0)) :
    MetFree l (⟨"com/example/lotwise/lotwise/Relaxation", "leastReaching", "(D)D"⟩ : MethodName) (head1 (Jvm.Cond.code (⟨"com/example/lotwise/lotwise/Relaxation", "leastReaching", "(D)D"⟩ : MethodName) prog_35_method_5_code 2 (some .double) :: ws) ({ frames := 0, cells := 0, slots := 0, locals := 0 } : Room)) (fun a U => a = #[(.double r0)] ∧ Z.Warmed39 U.vm ∧ U.heap = h0) (fun _ _ _ _ _ => True) (fun _ U o U' => ∃ v L, o = .returned v ∧ Q3 Z r0 h0 n0 v U'.heap L ∧ FrameEnd U o U' L ({ frames := 0, cells := 0, slots := 0, locals := 0 } : Room).cells ({ frames := 0, cells := 0, slots := 0, locals := 0 } : Room).slots) := by
  refine MetFree.of_bodySF (plainFor_of_name pn_3) hisR ?_
  intro p e s m args below meth c s₁ Bd hml0 hP hK
  obtain ⟨rfl, hZ, hh⟩ := hP
  have hx := Bd.exec
  have hby := Bd.bytes
  have hml : c.maxLocals = 2 := hml0
  have hown : s.vm.findClass "com/example/lotwise/lotwise/Relaxation" = some m.cls := findClass_of_methodNamed Bd.named
  have hnm := (name_of_methodNamed Bd.named Bd.method).1
  have X0 : Stand p l e ({ frames := 0, cells := 0, slots := 0, locals := 0 } : Room) s m #[(.double r0)] below meth c s₁ [] 0 0 := Stand.of_body Bd
  have e0 : s₁.heap = h0 := by rw [← hh, Bd.state]; rfl
  have N0 := Fr.nil n0
  have pre0 : ∀ t, Steps p.tables e below (s₁.setTop (mkF m 0 #[.val (.double r0), .second] [])) t → Steps p.tables e below (s₁.setTop (entryFrame m #[(.double r0)] 2)) t := fun t k => castTop (ef_3 m r0) k
  show Done p e below _ _
  refine Done.of ?_ pre0
  obtain ⟨fs, hr, hrun, hended, hW, hsame⟩ := X0.leave (v := some (.double (FP.dsub (FP.dsub r0 (FP.dmul (4472406533629990549 : UInt64) r0)) (4503599627370496 : UInt64)))) (fun h => by rw [Bd.returns] at h; cases h)
  refine ⟨_, _, ?_, hrun, hended, _, _, rfl, ?_, ⟨_, rfl⟩, hW, hsame.mono (by decide) (by decide)⟩
  · show Steps p.tables e below (s₁.setTop (mkF m 0 #[.val (.double r0), .second] [])) _
    refine XS.dloadN X0.here hx rfl (hb hby d3_0) rfl ?_
    show Steps p.tables e below (s₁.setTop (mkF m 1 #[.val (.double r0), .second] [(.double r0)])) _
    refine X0.ldc2DoubleC hx hown (mvT hZ (hw _ (List.mem_of_getElem? (i := 13) rfl))) (g := (mkF m 1 #[.val (.double r0), .second] [(.double r0)])) rfl (hb hby d3_1) _ ?_
    show Steps p.tables e below (s₁.setTop (mkF m 4 #[.val (.double r0), .second] [(.double (4472406533629990549 : UInt64)), (.double r0)])) _
    refine XS.dloadN X0.here hx rfl (hb hby d3_4) rfl ?_
    show Steps p.tables e below (s₁.setTop (mkF m 5 #[.val (.double r0), .second] [(.double r0), (.double (4472406533629990549 : UInt64)), (.double r0)])) _
    refine XS.dmulS X0.here hx rfl (hb hby d3_5) rfl (own_nn f1) rfl ?_
    show Steps p.tables e below (s₁.setTop (mkF m 6 #[.val (.double r0), .second] [(.double (FP.dmul (4472406533629990549 : UInt64) r0)), (.double r0)])) _
    refine XS.dsubS X0.here hx rfl (hb hby d3_6) rfl (own_nn f2) rfl ?_
    show Steps p.tables e below (s₁.setTop (mkF m 7 #[.val (.double r0), .second] [(.double (FP.dsub r0 (FP.dmul (4472406533629990549 : UInt64) r0)))])) _
    refine X0.ldc2DoubleC hx hown (mvT hZ (hw _ (List.mem_of_getElem? (i := 14) rfl))) (g := (mkF m 7 #[.val (.double r0), .second] [(.double (FP.dsub r0 (FP.dmul (4472406533629990549 : UInt64) r0)))])) rfl (hb hby d3_7) _ ?_
    show Steps p.tables e below (s₁.setTop (mkF m 10 #[.val (.double r0), .second] [(.double (4503599627370496 : UInt64)), (.double (FP.dsub r0 (FP.dmul (4472406533629990549 : UInt64) r0)))])) _
    refine XS.dsubS X0.here hx rfl (hb hby d3_10) rfl (own_nn f3) rfl ?_
    show Steps p.tables e below (s₁.setTop (mkF m 11 #[.val (.double r0), .second] [(.double (FP.dsub (FP.dsub r0 (FP.dmul (4472406533629990549 : UInt64) r0)) (4503599627370496 : UInt64)))])) _
    jvm_step X0.here [X0.here.top, hx, (hb hby d3_11), X0.method', Bd.returns, narrow]
    first | (intro acts; rw [hr _ acts rfl rfl rfl]) | rw [hr _ _ rfl rfl rfl]
    exact Steps.refl _
  · show Q3 Z r0  h0 n0 _ s₁.heap _
    rw [e0]
    refine ⟨?_, N0, rfl⟩
    rfl
theorem d2_0 : decode prog_35_method_4_code 0 = .ok (.dload_n 0, 1) := by decide +kernel
theorem d2_1 : decode prog_35_method_4_code 1 = .ok (.dload_n 2, 1) := by decide +kernel
theorem d2_2 : decode prog_35_method_4_code 2 = .ok (.invokestatic 71, 3) := by decide +kernel
theorem d2_5 : decode prog_35_method_4_code 5 = .ok (.dcmp .l, 1) := by decide +kernel
theorem d2_6 : decode prog_35_method_4_code 6 = .ok (.ifCond .lt 7, 3) := by decide +kernel
theorem d2_9 : decode prog_35_method_4_code 9 = .ok (.iconst 1, 1) := by decide +kernel
theorem d2_10 : decode prog_35_method_4_code 10 = .ok (.goto 4, 3) := by decide +kernel
theorem d2_13 : decode prog_35_method_4_code 13 = .ok (.iconst 0, 1) := by decide +kernel
theorem d2_14 : decode prog_35_method_4_code 14 = .ok (.ireturn, 1) := by decide +kernel
theorem pn_2 : plainName "com/example/lotwise/lotwise/Relaxation" = true := by first | (simp [plainName, overriddenIn]; done) | decide +kernel
theorem pd_0 : parseMethodDescriptor "(D)D" = some ⟨[.double], some .double⟩ := by decide +kernel
theorem ef_2 (m : MethodId) (r0 : UInt64) (r1 : UInt64)  : entryFrame m #[(.double r0), (.double r1)] 4 = mkF m 0 #[.val (.double r0), .second, .val (.double r1), .second] [] := by first | (simp [entryFrame, mkF, argsToLocals, Value.category]; done) | rfl
def Q2 (Z : State) (r0 : UInt64) (r1 : UInt64) (h0 : Heap) (n0 : Nat) (v : Option Value) (h : Heap) (L : List Loc) : Prop := v = some (.int (if (cmpValue (FP.dcmp r0 (Own.least r1)) .l) < (0 : Int32) then (0 : Int32) else (1 : Int32))) ∧ Fr n0 L ∧ h = h0
set_option maxRecDepth 65536 in
set_option maxHeartbeats 40000000 in
theorem rm2 (l : Launch) (Z : State) (a0 : Array Value) (hw : ∀ d ∈ tables_1, d.before a0 Z = true) (ws : List Jvm.Cond) (r0 : UInt64) (r1 : UInt64) (h0 : Heap) (n0 : Nat) (Z0 : n0 ≤ h0.size) (f1 : FP.Core.DFin (FP.Core.dmul 4472406533629990549 r1)) (f2 : FP.Core.DFin (FP.Core.dsub r1 (FP.Core.dmul 4472406533629990549 r1))) (f3 : FP.Core.DFin (Own.least r1)) :
    MetFree l (⟨"com/example/lotwise/lotwise/Relaxation", "mayReach", "(DD)Z"⟩ : MethodName) (head1 (Jvm.Cond.code (⟨"com/example/lotwise/lotwise/Relaxation", "mayReach", "(DD)Z"⟩ : MethodName) prog_35_method_4_code 4 (some .boolean) :: ws) ({ frames := 1, cells := 0, slots := 0, locals := 15 } : Room)) (fun a U => a = #[(.double r0), (.double r1)] ∧ Z.Warmed39 U.vm ∧ U.heap = h0) (fun _ _ _ _ _ => True) (fun _ U o U' => ∃ v L, o = .returned v ∧ Q2 Z r0 r1 h0 n0 v U'.heap L ∧ FrameEnd U o U' L ({ frames := 1, cells := 0, slots := 0, locals := 15 } : Room).cells ({ frames := 1, cells := 0, slots := 0, locals := 15 } : Room).slots) := by
  refine MetFree.of_bodySF (plainFor_of_name pn_2) hisR ?_
  intro p e s m args below meth c s₁ Bd hml0 hP hK
  obtain ⟨rfl, hZ, hh⟩ := hP
  have hx := Bd.exec
  have hby := Bd.bytes
  have hml : c.maxLocals = 4 := hml0
  have hown : s.vm.findClass "com/example/lotwise/lotwise/Relaxation" = some m.cls := findClass_of_methodNamed Bd.named
  have hnm := (name_of_methodNamed Bd.named Bd.method).1
  have X0 : Stand p l e ({ frames := 1, cells := 0, slots := 0, locals := 15 } : Room) s m #[(.double r0), (.double r1)] below meth c s₁ [] 0 0 := Stand.of_body Bd
  have e0 : s₁.heap = h0 := by rw [← hh, Bd.state]; rfl
  have N0 := Fr.nil n0
  have pre0 : ∀ t, Steps p.tables e below (s₁.setTop (mkF m 0 #[.val (.double r0), .second, .val (.double r1), .second] [])) t → Steps p.tables e below (s₁.setTop (entryFrame m #[(.double r0), (.double r1)] 4)) t := fun t k => castTop (ef_2 m r0 r1) k
  show Done p e below _ _
  refine Done.of ?_ pre0
  obtain ⟨_, _, ⟨T1, L1, k1, n1⟩, -, X1, ⟨Lc1, hQ1, l1, y1, z1⟩, st1⟩ := Jvm.LawKit.callS X0 hx (y := (⟨"com/example/lotwise/lotwise/Relaxation", "leastReaching", "(D)D"⟩ : MethodName)) hown (mvT hZ (hw _ (List.mem_of_getElem? (i := 10) rfl))) (mvT hZ (hw _ (List.mem_of_getElem? (i := 11) rfl))) (mvT hZ (hw _ (List.mem_of_getElem? (i := 8) rfl))) (mvT hZ (hw _ (List.mem_of_getElem? (i := 12) rfl))) (by decide) (backOf (W := 2) (rm3 l Z a0 hw [] r1 h0 n0 Z0 f1 f2 f3) hZ (hw _ (List.mem_of_getElem? (i := 12) rfl)) (hw _ (List.mem_of_getElem? (i := 8) rfl)) (by decide) (by decide)) (g := (mkF m 2 #[.val (.double r0), .second, .val (.double r1), .second] [(.double r1), (.double r0)])) rfl (by rw [hml]; rfl) (argsL := [(.double r1)]) (rest := [(.double r0)]) (lenOf pd_0 rfl) rfl (by show 2 * 0 + _ ≤ _; exact Nat.le_of_eq rfl) (hb hby d2_2) (fun _ _ => ⟨rfl, e0, (by decide : 0 + 0 ≤ _), (by decide : 0 + 0 ≤ _)⟩)
  dsimp only [Pt.U, Pt.locs, Pt.cells, Pt.slots] at X1 l1 y1 z1 st1 hQ1
  rw [l1, y1, z1] at X1
  obtain ⟨rfl, N1q, e1⟩ := hQ1
  have N1 := Fr.app N0 N1q
  have J6_2 : ∀ wj : Int32, wj = (if (cmpValue (FP.dcmp r0 (Own.least r1)) .l) < (0 : Int32) then (0 : Int32) else (1 : Int32)) → ∀ target, Steps p.tables e below (T1.setTop (mkF m 14 #[.val (.double r0), .second, .val (.double r1), .second] [(.int wj)])) target → Steps p.tables e below (T1.setTop (mkF m 6 #[.val (.double r0), .second, .val (.double r1), .second] [(.int (cmpValue (FP.dcmp r0 (Own.least r1)) .l))])) target := by
    intro wj hw0 target kt
    by_cases hj6 : (cmpValue (FP.dcmp r0 (Own.least r1)) .l) < (0 : Int32)
    · rw [if_pos hj6] at hw0
      show Steps p.tables e below (T1.setTop (mkF m 6 #[.val (.double r0), .second, .val (.double r1), .second] [(.int (cmpValue (FP.dcmp r0 (Own.least r1)) .l))])) _
      refine XS.ifYes X1.here hx rfl (pc0 := 6) (pc' := 13) rfl (hb hby d2_6) rfl ((if0 _ _).trans (tlt hj6).1) (by decide) (by decide) ?_
      show Steps p.tables e below (T1.setTop (mkF m 13 #[.val (.double r0), .second, .val (.double r1), .second] [])) _
      refine XS.iconst X1.here hx rfl (hb hby d2_13) ?_
      rw [hw0] at kt
      exact kt
    · rw [if_neg hj6] at hw0
      show Steps p.tables e below (T1.setTop (mkF m 6 #[.val (.double r0), .second, .val (.double r1), .second] [(.int (cmpValue (FP.dcmp r0 (Own.least r1)) .l))])) _
      refine XS.ifNo X1.here hx rfl (hb hby d2_6) rfl ((if0 _ _).trans (flt hj6).1) ?_
      show Steps p.tables e below (T1.setTop (mkF m 9 #[.val (.double r0), .second, .val (.double r1), .second] [])) _
      refine XS.iconst X1.here hx rfl (hb hby d2_9) ?_
      show Steps p.tables e below (T1.setTop (mkF m 10 #[.val (.double r0), .second, .val (.double r1), .second] [(.int (1 : Int32))])) _
      refine XS.goto X1.here hx rfl (pc0 := 10) (pc' := 14) rfl (hb hby d2_10) (by decide) (by decide) ?_
      rw [hw0] at kt
      exact kt
  obtain ⟨fs, hr, hrun, hended, hW, hsame⟩ := X1.leave (v := some (.int (nar .boolean (if (cmpValue (FP.dcmp r0 (Own.least r1)) .l) < (0 : Int32) then (0 : Int32) else (1 : Int32))))) (fun h => by rw [Bd.returns] at h; cases h)
  refine ⟨_, _, ?_, hrun, hended, _, _, rfl, ?_, ⟨_, rfl⟩, hW, hsame.mono (by decide) (by decide)⟩
  · show Steps p.tables e below (s₁.setTop (mkF m 0 #[.val (.double r0), .second, .val (.double r1), .second] [])) _
    refine XS.dloadN X0.here hx rfl (hb hby d2_0) rfl ?_
    show Steps p.tables e below (s₁.setTop (mkF m 1 #[.val (.double r0), .second, .val (.double r1), .second] [(.double r0)])) _
    refine XS.dloadN X0.here hx rfl (hb hby d2_1) rfl ?_
    show Steps p.tables e below (s₁.setTop (mkF m 2 #[.val (.double r0), .second, .val (.double r1), .second] [(.double r1), (.double r0)])) _
    refine st1 _ ?_
    show Steps p.tables e below (T1.setTop (mkF m 5 #[.val (.double r0), .second, .val (.double r1), .second] [(.double (Own.least r1)), (.double r0)])) _
    refine XS.dcmpS X1.here hx rfl (hb hby d2_5) rfl rfl ?_
    show Steps p.tables e below (T1.setTop (mkF m 6 #[.val (.double r0), .second, .val (.double r1), .second] [(.int (cmpValue (FP.dcmp r0 (Own.least r1)) .l))])) _
    refine J6_2 _ rfl _ ?_
    show Steps p.tables e below (T1.setTop (mkF m 14 #[.val (.double r0), .second, .val (.double r1), .second] [(.int (if (cmpValue (FP.dcmp r0 (Own.least r1)) .l) < (0 : Int32) then (0 : Int32) else (1 : Int32)))])) _
    exact retN X1 hx (t := .boolean) Bd.returns (by simp) (hb hby d2_14) hr
  · show Q2 Z r0 r1  h0 n0 _ T1.heap _
    rw [e1]
    refine ⟨?_, N1, rfl⟩
    ((repeat' split) <;> rfl)
theorem pn_0 : plainName "com/example/lotwise/lotwise/RelaxationMayReachPinLaw" = true := by first | (simp [plainName, overriddenIn]; done) | decide +kernel
theorem pd_1 : parseMethodDescriptor "(JJ)J" = some ⟨[.long, .long], some .long⟩ := by decide +kernel
theorem pd_2 : parseMethodDescriptor "(DD)Z" = some ⟨[.double, .double], some .boolean⟩ := by decide +kernel
theorem ef_0 (m : MethodId) (p0 : Int32) (p1 : Int32) (p2 : Int32)  : entryFrame m #[(.int p0), (.int p1), (.int p2)] maxLocals = mkF m 0 #[.val (.int p0), .val (.int p1), .val (.int p2), .unset, .unset, .unset, .unset, .unset, .unset, .unset, .unset, .unset, .unset, .unset, .unset, .unset, .unset, .unset, .unset, .unset, .unset] [] := by first | (simp [entryFrame, mkF, argsToLocals, Value.category, maxLocals]; done) | rfl
def Q0 (Z : State) (p0 : Int32) (p1 : Int32) (p2 : Int32) (h0 : Heap) (n0 : Nat) (v : Option Value) (h : Heap) (L : List Loc) : Prop := v = some (.int 1) ∧ Fr n0 L
set_option maxRecDepth 65536 in
set_option maxHeartbeats 40000000 in
theorem rm0 (l : Launch) (Z : State) (a0 : Array Value) (hw : ∀ d ∈ tables_1, d.before a0 Z = true) (ws : List Jvm.Cond) (p0 : Int32) (p1 : Int32) (p2 : Int32) (h0 : Heap) (n0 : Nat) (Z0 : n0 ≤ h0.size) :
    MetFree l x (head1 (Jvm.Cond.code x code maxLocals ret :: ws) room_1) (fun a U => a = #[(.int p0), (.int p1), (.int p2)] ∧ Z.Warmed39 U.vm ∧ U.heap = h0) (fun _ _ _ _ _ => True) (fun _ U o U' => ∃ v L, o = .returned v ∧ Q0 Z p0 p1 p2 h0 n0 v U'.heap L ∧ FrameEnd U o U' L room_1.cells room_1.slots) := by
  refine MetFree.of_bodySF (plainFor_of_name pn_0) hisR ?_
  intro p e s m args below meth c s₁ Bd hml0 hP hK
  obtain ⟨rfl, hZ, hh⟩ := hP
  have hx := Bd.exec
  have hby := Bd.bytes
  have hml : c.maxLocals = 21 := hml0
  have hown : s.vm.findClass "com/example/lotwise/lotwise/RelaxationMayReachPinLaw" = some m.cls := findClass_of_methodNamed Bd.named
  have hnm := (name_of_methodNamed Bd.named Bd.method).1
  have X0 : Stand p l e room_1 s m #[(.int p0), (.int p1), (.int p2)] below meth c s₁ [] 0 0 := Stand.of_body Bd
  have e0 : s₁.heap = h0 := by rw [← hh, Bd.state]; rfl
  have N0 := Fr.nil n0
  have pre0 : ∀ t, Steps p.tables e below (s₁.setTop (mkF m 0 #[.val (.int p0), .val (.int p1), .val (.int p2), .unset, .unset, .unset, .unset, .unset, .unset, .unset, .unset, .unset, .unset, .unset, .unset, .unset, .unset, .unset, .unset, .unset, .unset] [])) t → Steps p.tables e below (s₁.setTop (entryFrame m #[(.int p0), (.int p1), (.int p2)] maxLocals)) t := fun t k => castTop (ef_0 m p0 p1 p2) k
  show Done p e below _ _
  refine Done.of ?_ pre0
  obtain ⟨v1, ev1⟩ : ∃ z : Int64, z = ((p0.toInt64) &&& (2147483647 : Int64)) := ⟨_, rfl⟩
  have K2 : ∀ target, Steps p.tables e below (s₁.setTop (mkF m 10 #[.val (.int p0), .val (.int p1), .val (.int p2), .val (.long v1), .second, .unset, .unset, .unset, .unset, .unset, .unset, .unset, .unset, .unset, .unset, .unset, .unset, .unset, .unset, .unset, .unset] [(.int (p2 &&& (1 : Int32)))])) target → Steps p.tables e below (s₁.setTop (mkF m 0 #[.val (.int p0), .val (.int p1), .val (.int p2), .unset, .unset, .unset, .unset, .unset, .unset, .unset, .unset, .unset, .unset, .unset, .unset, .unset, .unset, .unset, .unset, .unset, .unset] [])) target := by
    intro target kt
    show Steps p.tables e below (s₁.setTop (mkF m 0 #[.val (.int p0), .val (.int p1), .val (.int p2), .unset, .unset, .unset, .unset, .unset, .unset, .unset, .unset, .unset, .unset, .unset, .unset, .unset, .unset, .unset, .unset, .unset, .unset] [])) _
    refine XS.iloadN X0.here hx rfl (hb hby at_0) rfl ?_
    show Steps p.tables e below (s₁.setTop (mkF m 1 #[.val (.int p0), .val (.int p1), .val (.int p2), .unset, .unset, .unset, .unset, .unset, .unset, .unset, .unset, .unset, .unset, .unset, .unset, .unset, .unset, .unset, .unset, .unset, .unset] [(.int p0)])) _
    refine XS.i2l X0.here hx rfl (hb hby at_1) rfl ?_
    show Steps p.tables e below (s₁.setTop (mkF m 2 #[.val (.int p0), .val (.int p1), .val (.int p2), .unset, .unset, .unset, .unset, .unset, .unset, .unset, .unset, .unset, .unset, .unset, .unset, .unset, .unset, .unset, .unset, .unset, .unset] [(.long (p0.toInt64))])) _
    refine X0.ldc2Long hx hown (mvT hZ (hw _ (List.mem_of_getElem? (i := 0) rfl))) (g := (mkF m 2 #[.val (.int p0), .val (.int p1), .val (.int p2), .unset, .unset, .unset, .unset, .unset, .unset, .unset, .unset, .unset, .unset, .unset, .unset, .unset, .unset, .unset, .unset, .unset, .unset] [(.long (p0.toInt64))])) rfl (hb hby at_2) _ ?_
    show Steps p.tables e below (s₁.setTop (mkF m 5 #[.val (.int p0), .val (.int p1), .val (.int p2), .unset, .unset, .unset, .unset, .unset, .unset, .unset, .unset, .unset, .unset, .unset, .unset, .unset, .unset, .unset, .unset, .unset, .unset] [(.long (2147483647 : Int64)), (.long (p0.toInt64))])) _
    refine XS.land X0.here hx rfl (hb hby at_5) rfl ?_
    show Steps p.tables e below (s₁.setTop (mkF m 6 #[.val (.int p0), .val (.int p1), .val (.int p2), .unset, .unset, .unset, .unset, .unset, .unset, .unset, .unset, .unset, .unset, .unset, .unset, .unset, .unset, .unset, .unset, .unset, .unset] [(.long ((p0.toInt64) &&& (2147483647 : Int64)))])) _
    rw [← ev1]
    show Steps p.tables e below (s₁.setTop (mkF m 6 #[.val (.int p0), .val (.int p1), .val (.int p2), .unset, .unset, .unset, .unset, .unset, .unset, .unset, .unset, .unset, .unset, .unset, .unset, .unset, .unset, .unset, .unset, .unset, .unset] [(.long v1)])) _
    refine XS.lstoreN X0.here hx rfl (hb hby at_6) rfl (l' := #[.val (.int p0), .val (.int p1), .val (.int p2), .val (.long v1), .second, .unset, .unset, .unset, .unset, .unset, .unset, .unset, .unset, .unset, .unset, .unset, .unset, .unset, .unset, .unset, .unset]) rfl ?_
    show Steps p.tables e below (s₁.setTop (mkF m 7 #[.val (.int p0), .val (.int p1), .val (.int p2), .val (.long v1), .second, .unset, .unset, .unset, .unset, .unset, .unset, .unset, .unset, .unset, .unset, .unset, .unset, .unset, .unset, .unset, .unset] [])) _
    refine XS.iloadN X0.here hx rfl (hb hby at_7) rfl ?_
    show Steps p.tables e below (s₁.setTop (mkF m 8 #[.val (.int p0), .val (.int p1), .val (.int p2), .val (.long v1), .second, .unset, .unset, .unset, .unset, .unset, .unset, .unset, .unset, .unset, .unset, .unset, .unset, .unset, .unset, .unset, .unset] [(.int p2)])) _
    refine XS.iconst X0.here hx rfl (hb hby at_8) ?_
    show Steps p.tables e below (s₁.setTop (mkF m 9 #[.val (.int p0), .val (.int p1), .val (.int p2), .val (.long v1), .second, .unset, .unset, .unset, .unset, .unset, .unset, .unset, .unset, .unset, .unset, .unset, .unset, .unset, .unset, .unset, .unset] [(.int (1 : Int32)), (.int p2)])) _
    refine XS.iand X0.here hx rfl (hb hby at_9) rfl ?_
    exact kt
  refine Done.of ?_ K2
  by_cases hc10_3 : (p2 &&& (1 : Int32)) = (0 : Int32)
  · have K : ∀ target, Steps p.tables e below (s₁.setTop (mkF m 25 #[.val (.int p0), .val (.int p1), .val (.int p2), .val (.long v1), .second, .unset, .unset, .unset, .unset, .unset, .unset, .unset, .unset, .unset, .unset, .unset, .unset, .unset, .unset, .unset, .unset] [])) target → Steps p.tables e below (s₁.setTop (mkF m 10 #[.val (.int p0), .val (.int p1), .val (.int p2), .val (.long v1), .second, .unset, .unset, .unset, .unset, .unset, .unset, .unset, .unset, .unset, .unset, .unset, .unset, .unset, .unset, .unset, .unset] [(.int (p2 &&& (1 : Int32)))])) target := by
      intro target kt
      refine XS.ifYes X0.here hx rfl (pc0 := 10) (pc' := 25) rfl (hb hby at_10) rfl ((if0 _ _).trans (teq hc10_3).1) (by decide) (by decide) ?_
      exact kt
    refine Done.of ?_ K
    obtain ⟨v4, ev4⟩ : ∃ z : Int64, z = ((p1.toInt64) &&& (2147483647 : Int64)) := ⟨_, rfl⟩
    obtain ⟨_, _, ⟨T5, L5, k5, n5⟩, -, X5, ⟨Lc5, hQ5, l5, y5, z5⟩, st5⟩ := Jvm.LawKit.callS X0 hx (y := (⟨"java/lang/Math", "max", "(JJ)J"⟩ : MethodName)) hown (mvT hZ (hw _ (List.mem_of_getElem? (i := 1) rfl))) (mvT hZ (hw _ (List.mem_of_getElem? (i := 2) rfl))) (mvT hZ (hw _ (List.mem_of_getElem? (i := 3) rfl))) (mvT hZ (hw _ (List.mem_of_getElem? (i := 4) rfl))) (by decide) (backOf (W := 0) (rm1 l Z a0 hw [] (0 : Int64) v4 h0 n0 Z0 ) hZ (hw _ (List.mem_of_getElem? (i := 4) rfl)) (hw _ (List.mem_of_getElem? (i := 3) rfl)) (by decide) (by decide)) (g := (mkF m 36 #[.val (.int p0), .val (.int p1), .val (.int p2), .val (.long v1), .second, .val (.long v4), .second, .unset, .unset, .unset, .unset, .unset, .unset, .unset, .unset, .unset, .unset, .unset, .unset, .unset, .unset] [(.long v4), (.long (0 : Int64))])) rfl (by rw [hml]; rfl) (argsL := [(.long (0 : Int64)), (.long v4)]) (rest := []) (lenOf pd_1 rfl) rfl (by show 2 * 0 + _ ≤ _; exact Nat.le_of_eq rfl) (hb hby at_36) (fun _ _ => ⟨rfl, e0, (by decide : 0 + 0 ≤ _), (by decide : 0 + 0 ≤ _)⟩)
    dsimp only [Pt.U, Pt.locs, Pt.cells, Pt.slots] at X5 l5 y5 z5 st5 hQ5
    rw [l5, y5, z5] at X5
    obtain ⟨rfl, N5q, e5⟩ := hQ5
    have N5 := Fr.app N0 N5q
    obtain ⟨v6, ev6⟩ : ∃ z : Int64, z = (own_X (0 : Int64) v4) := ⟨_, rfl⟩
    have J44_7 : ∀ wj : Int32, wj = (if (p2 &&& (2 : Int32)) = (0 : Int32) then (0 : Int32) else (1 : Int32)) → ∀ target, Steps p.tables e below (T5.setTop (mkF m 52 #[.val (.int p0), .val (.int p1), .val (.int p2), .val (.long v1), .second, .val (.long v6), .second, .unset, .unset, .unset, .unset, .unset, .unset, .unset, .unset, .unset, .unset, .unset, .unset, .unset, .unset] [(.int wj)])) target → Steps p.tables e below (T5.setTop (mkF m 44 #[.val (.int p0), .val (.int p1), .val (.int p2), .val (.long v1), .second, .val (.long v6), .second, .unset, .unset, .unset, .unset, .unset, .unset, .unset, .unset, .unset, .unset, .unset, .unset, .unset, .unset] [(.int (p2 &&& (2 : Int32)))])) target := by
      intro wj hw0 target kt
      by_cases hj44 : (p2 &&& (2 : Int32)) = (0 : Int32)
      · rw [if_pos hj44] at hw0
        show Steps p.tables e below (T5.setTop (mkF m 44 #[.val (.int p0), .val (.int p1), .val (.int p2), .val (.long v1), .second, .val (.long v6), .second, .unset, .unset, .unset, .unset, .unset, .unset, .unset, .unset, .unset, .unset, .unset, .unset, .unset, .unset] [(.int (p2 &&& (2 : Int32)))])) _
        refine XS.ifYes X5.here hx rfl (pc0 := 44) (pc' := 51) rfl (hb hby at_44) rfl ((if0 _ _).trans (teq hj44).1) (by decide) (by decide) ?_
        show Steps p.tables e below (T5.setTop (mkF m 51 #[.val (.int p0), .val (.int p1), .val (.int p2), .val (.long v1), .second, .val (.long v6), .second, .unset, .unset, .unset, .unset, .unset, .unset, .unset, .unset, .unset, .unset, .unset, .unset, .unset, .unset] [])) _
        refine XS.iconst X5.here hx rfl (hb hby at_51) ?_
        rw [hw0] at kt
        exact kt
      · rw [if_neg hj44] at hw0
        show Steps p.tables e below (T5.setTop (mkF m 44 #[.val (.int p0), .val (.int p1), .val (.int p2), .val (.long v1), .second, .val (.long v6), .second, .unset, .unset, .unset, .unset, .unset, .unset, .unset, .unset, .unset, .unset, .unset, .unset, .unset, .unset] [(.int (p2 &&& (2 : Int32)))])) _
        refine XS.ifNo X5.here hx rfl (hb hby at_44) rfl ((if0 _ _).trans (feq hj44).1) ?_
        show Steps p.tables e below (T5.setTop (mkF m 47 #[.val (.int p0), .val (.int p1), .val (.int p2), .val (.long v1), .second, .val (.long v6), .second, .unset, .unset, .unset, .unset, .unset, .unset, .unset, .unset, .unset, .unset, .unset, .unset, .unset, .unset] [])) _
        refine XS.iconst X5.here hx rfl (hb hby at_47) ?_
        show Steps p.tables e below (T5.setTop (mkF m 48 #[.val (.int p0), .val (.int p1), .val (.int p2), .val (.long v1), .second, .val (.long v6), .second, .unset, .unset, .unset, .unset, .unset, .unset, .unset, .unset, .unset, .unset, .unset, .unset, .unset, .unset] [(.int (1 : Int32))])) _
        refine XS.goto X5.here hx rfl (pc0 := 48) (pc' := 52) rfl (hb hby at_48) (by decide) (by decide) ?_
        rw [hw0] at kt
        exact kt
    obtain ⟨v8, ev8⟩ : ∃ z : Int32, z = (if (p2 &&& (2 : Int32)) = (0 : Int32) then (0 : Int32) else (1 : Int32)) := ⟨_, rfl⟩
    have K9 : ∀ target, Steps p.tables e below (T5.setTop (mkF m 56 #[.val (.int p0), .val (.int p1), .val (.int p2), .val (.long v1), .second, .val (.long v6), .second, .val (.int v8), .unset, .unset, .unset, .unset, .unset, .unset, .unset, .unset, .unset, .unset, .unset, .unset, .unset] [(.int v8)])) target → Steps p.tables e below (s₁.setTop (mkF m 25 #[.val (.int p0), .val (.int p1), .val (.int p2), .val (.long v1), .second, .unset, .unset, .unset, .unset, .unset, .unset, .unset, .unset, .unset, .unset, .unset, .unset, .unset, .unset, .unset, .unset] [])) target := by
      intro target kt
      show Steps p.tables e below (s₁.setTop (mkF m 25 #[.val (.int p0), .val (.int p1), .val (.int p2), .val (.long v1), .second, .unset, .unset, .unset, .unset, .unset, .unset, .unset, .unset, .unset, .unset, .unset, .unset, .unset, .unset, .unset, .unset] [])) _
      refine XS.iloadN X0.here hx rfl (hb hby at_25) rfl ?_
      show Steps p.tables e below (s₁.setTop (mkF m 26 #[.val (.int p0), .val (.int p1), .val (.int p2), .val (.long v1), .second, .unset, .unset, .unset, .unset, .unset, .unset, .unset, .unset, .unset, .unset, .unset, .unset, .unset, .unset, .unset, .unset] [(.int p1)])) _
      refine XS.i2l X0.here hx rfl (hb hby at_26) rfl ?_
      show Steps p.tables e below (s₁.setTop (mkF m 27 #[.val (.int p0), .val (.int p1), .val (.int p2), .val (.long v1), .second, .unset, .unset, .unset, .unset, .unset, .unset, .unset, .unset, .unset, .unset, .unset, .unset, .unset, .unset, .unset, .unset] [(.long (p1.toInt64))])) _
      refine X0.ldc2Long hx hown (mvT hZ (hw _ (List.mem_of_getElem? (i := 0) rfl))) (g := (mkF m 27 #[.val (.int p0), .val (.int p1), .val (.int p2), .val (.long v1), .second, .unset, .unset, .unset, .unset, .unset, .unset, .unset, .unset, .unset, .unset, .unset, .unset, .unset, .unset, .unset, .unset] [(.long (p1.toInt64))])) rfl (hb hby at_27) _ ?_
      show Steps p.tables e below (s₁.setTop (mkF m 30 #[.val (.int p0), .val (.int p1), .val (.int p2), .val (.long v1), .second, .unset, .unset, .unset, .unset, .unset, .unset, .unset, .unset, .unset, .unset, .unset, .unset, .unset, .unset, .unset, .unset] [(.long (2147483647 : Int64)), (.long (p1.toInt64))])) _
      refine XS.land X0.here hx rfl (hb hby at_30) rfl ?_
      show Steps p.tables e below (s₁.setTop (mkF m 31 #[.val (.int p0), .val (.int p1), .val (.int p2), .val (.long v1), .second, .unset, .unset, .unset, .unset, .unset, .unset, .unset, .unset, .unset, .unset, .unset, .unset, .unset, .unset, .unset, .unset] [(.long ((p1.toInt64) &&& (2147483647 : Int64)))])) _
      rw [← ev4]
      show Steps p.tables e below (s₁.setTop (mkF m 31 #[.val (.int p0), .val (.int p1), .val (.int p2), .val (.long v1), .second, .unset, .unset, .unset, .unset, .unset, .unset, .unset, .unset, .unset, .unset, .unset, .unset, .unset, .unset, .unset, .unset] [(.long v4)])) _
      refine XS.lstore X0.here hx rfl (hb hby at_31) rfl (l' := #[.val (.int p0), .val (.int p1), .val (.int p2), .val (.long v1), .second, .val (.long v4), .second, .unset, .unset, .unset, .unset, .unset, .unset, .unset, .unset, .unset, .unset, .unset, .unset, .unset, .unset]) rfl ?_
      show Steps p.tables e below (s₁.setTop (mkF m 33 #[.val (.int p0), .val (.int p1), .val (.int p2), .val (.long v1), .second, .val (.long v4), .second, .unset, .unset, .unset, .unset, .unset, .unset, .unset, .unset, .unset, .unset, .unset, .unset, .unset, .unset] [])) _
      refine XS.lconst X0.here hx rfl (hb hby at_33) ?_
      show Steps p.tables e below (s₁.setTop (mkF m 34 #[.val (.int p0), .val (.int p1), .val (.int p2), .val (.long v1), .second, .val (.long v4), .second, .unset, .unset, .unset, .unset, .unset, .unset, .unset, .unset, .unset, .unset, .unset, .unset, .unset, .unset] [(.long (0 : Int64))])) _
      refine XS.lload X0.here hx rfl (hb hby at_34) rfl ?_
      show Steps p.tables e below (s₁.setTop (mkF m 36 #[.val (.int p0), .val (.int p1), .val (.int p2), .val (.long v1), .second, .val (.long v4), .second, .unset, .unset, .unset, .unset, .unset, .unset, .unset, .unset, .unset, .unset, .unset, .unset, .unset, .unset] [(.long v4), (.long (0 : Int64))])) _
      refine st5 _ ?_
      show Steps p.tables e below (T5.setTop (mkF m 39 #[.val (.int p0), .val (.int p1), .val (.int p2), .val (.long v1), .second, .val (.long v4), .second, .unset, .unset, .unset, .unset, .unset, .unset, .unset, .unset, .unset, .unset, .unset, .unset, .unset, .unset] [(.long (own_X (0 : Int64) v4))])) _
      rw [← ev6]
      show Steps p.tables e below (T5.setTop (mkF m 39 #[.val (.int p0), .val (.int p1), .val (.int p2), .val (.long v1), .second, .val (.long v4), .second, .unset, .unset, .unset, .unset, .unset, .unset, .unset, .unset, .unset, .unset, .unset, .unset, .unset, .unset] [(.long v6)])) _
      refine XS.lstore X5.here hx rfl (hb hby at_39) rfl (l' := #[.val (.int p0), .val (.int p1), .val (.int p2), .val (.long v1), .second, .val (.long v6), .second, .unset, .unset, .unset, .unset, .unset, .unset, .unset, .unset, .unset, .unset, .unset, .unset, .unset, .unset]) rfl ?_
      show Steps p.tables e below (T5.setTop (mkF m 41 #[.val (.int p0), .val (.int p1), .val (.int p2), .val (.long v1), .second, .val (.long v6), .second, .unset, .unset, .unset, .unset, .unset, .unset, .unset, .unset, .unset, .unset, .unset, .unset, .unset, .unset] [])) _
      refine XS.iloadN X5.here hx rfl (hb hby at_41) rfl ?_
      show Steps p.tables e below (T5.setTop (mkF m 42 #[.val (.int p0), .val (.int p1), .val (.int p2), .val (.long v1), .second, .val (.long v6), .second, .unset, .unset, .unset, .unset, .unset, .unset, .unset, .unset, .unset, .unset, .unset, .unset, .unset, .unset] [(.int p2)])) _
      refine XS.iconst X5.here hx rfl (hb hby at_42) ?_
      show Steps p.tables e below (T5.setTop (mkF m 43 #[.val (.int p0), .val (.int p1), .val (.int p2), .val (.long v1), .second, .val (.long v6), .second, .unset, .unset, .unset, .unset, .unset, .unset, .unset, .unset, .unset, .unset, .unset, .unset, .unset, .unset] [(.int (2 : Int32)), (.int p2)])) _
      refine XS.iand X5.here hx rfl (hb hby at_43) rfl ?_
      show Steps p.tables e below (T5.setTop (mkF m 44 #[.val (.int p0), .val (.int p1), .val (.int p2), .val (.long v1), .second, .val (.long v6), .second, .unset, .unset, .unset, .unset, .unset, .unset, .unset, .unset, .unset, .unset, .unset, .unset, .unset, .unset] [(.int (p2 &&& (2 : Int32)))])) _
      refine J44_7 _ rfl _ ?_
      show Steps p.tables e below (T5.setTop (mkF m 52 #[.val (.int p0), .val (.int p1), .val (.int p2), .val (.long v1), .second, .val (.long v6), .second, .unset, .unset, .unset, .unset, .unset, .unset, .unset, .unset, .unset, .unset, .unset, .unset, .unset, .unset] [(.int (if (p2 &&& (2 : Int32)) = (0 : Int32) then (0 : Int32) else (1 : Int32)))])) _
      rw [← ev8]
      show Steps p.tables e below (T5.setTop (mkF m 52 #[.val (.int p0), .val (.int p1), .val (.int p2), .val (.long v1), .second, .val (.long v6), .second, .unset, .unset, .unset, .unset, .unset, .unset, .unset, .unset, .unset, .unset, .unset, .unset, .unset, .unset] [(.int v8)])) _
      refine XS.istore X5.here hx rfl (hb hby at_52) rfl (l' := #[.val (.int p0), .val (.int p1), .val (.int p2), .val (.long v1), .second, .val (.long v6), .second, .val (.int v8), .unset, .unset, .unset, .unset, .unset, .unset, .unset, .unset, .unset, .unset, .unset, .unset, .unset]) rfl ?_
      show Steps p.tables e below (T5.setTop (mkF m 54 #[.val (.int p0), .val (.int p1), .val (.int p2), .val (.long v1), .second, .val (.long v6), .second, .val (.int v8), .unset, .unset, .unset, .unset, .unset, .unset, .unset, .unset, .unset, .unset, .unset, .unset, .unset] [])) _
      refine XS.iload X5.here hx rfl (hb hby at_54) rfl ?_
      exact kt
    refine Done.of ?_ K9
    by_cases hc56_10 : v8 = (0 : Int32)
    · have K : ∀ target, Steps p.tables e below (T5.setTop (mkF m 65 #[.val (.int p0), .val (.int p1), .val (.int p2), .val (.long v1), .second, .val (.long v6), .second, .val (.int v8), .unset, .unset, .unset, .unset, .unset, .unset, .unset, .unset, .unset, .unset, .unset, .unset, .unset] [])) target → Steps p.tables e below (T5.setTop (mkF m 56 #[.val (.int p0), .val (.int p1), .val (.int p2), .val (.long v1), .second, .val (.long v6), .second, .val (.int v8), .unset, .unset, .unset, .unset, .unset, .unset, .unset, .unset, .unset, .unset, .unset, .unset, .unset] [(.int v8)])) target := by
        intro target kt
        refine XS.ifYes X5.here hx rfl (pc0 := 56) (pc' := 65) rfl (hb hby at_56) rfl ((if0 _ _).trans (teq hc56_10).1) (by decide) (by decide) ?_
        exact kt
      refine Done.of ?_ K
      have HT := own_t ev1
      have HR := own_r2 ev4 ev6
      have HG := fun (d mg : Int64) (ed : d = ((((v6 - v1) + (0 : Int64)) * (1000000000 : Int64)) + v1)) (em : mg = ((v1 >>> ((16 : Int32) &&& 0x3f).toInt64) + (16 : Int64))) => own_two (fl := (0 : Int64)) (sc := (4607182418800017408 : UInt64)) HT HR (Or.inl ⟨rfl, rfl⟩) ed em
      have H0 := HG _ _ rfl rfl
      obtain ⟨_, _, ⟨T11, L11, k11, n11⟩, -, X11, ⟨Lc11, hQ11, l11, y11, z11⟩, st11⟩ := Jvm.LawKit.callS X5 hx (y := (⟨"com/example/lotwise/lotwise/Relaxation", "mayReach", "(DD)Z"⟩ : MethodName)) hown (mvT hZ (hw _ (List.mem_of_getElem? (i := 6) rfl))) (mvT hZ (hw _ (List.mem_of_getElem? (i := 7) rfl))) (mvT hZ (hw _ (List.mem_of_getElem? (i := 8) rfl))) (mvT hZ (hw _ (List.mem_of_getElem? (i := 9) rfl))) (by decide) (backOf (W := 0) (rm2 l Z a0 hw [] (FP.dmul (FP.l2d v6) (4607182418800017408 : UInt64)) (FP.dmul (FP.l2d v1) (4607182418800017408 : UInt64)) h0 n0 Z0 H0.2.2.1 H0.2.2.2.1 H0.2.2.2.2.1) hZ (hw _ (List.mem_of_getElem? (i := 9) rfl)) (hw _ (List.mem_of_getElem? (i := 8) rfl)) (by decide) (by decide)) (g := (mkF m 87 #[.val (.int p0), .val (.int p1), .val (.int p2), .val (.long v1), .second, .val (.long v6), .second, .val (.int v8), .val (.double (4607182418800017408 : UInt64)), .second, .val (.double (FP.dmul (FP.l2d v6) (4607182418800017408 : UInt64))), .second, .val (.double (FP.dmul (FP.l2d v1) (4607182418800017408 : UInt64))), .second, .unset, .unset, .unset, .unset, .unset, .unset, .unset] [(.double (FP.dmul (FP.l2d v1) (4607182418800017408 : UInt64))), (.double (FP.dmul (FP.l2d v6) (4607182418800017408 : UInt64)))])) rfl (by rw [hml]; rfl) (argsL := [(.double (FP.dmul (FP.l2d v6) (4607182418800017408 : UInt64))), (.double (FP.dmul (FP.l2d v1) (4607182418800017408 : UInt64)))]) (rest := []) (lenOf pd_2 rfl) rfl (by show 2 * 0 + _ ≤ _; exact Nat.le_of_eq rfl) (hb hby at_87) (fun _ _ => ⟨rfl, e5, (by decide : 0 + 0 ≤ _), (by decide : 0 + 0 ≤ _)⟩)
      dsimp only [Pt.U, Pt.locs, Pt.cells, Pt.slots] at X11 l11 y11 z11 st11 hQ11
      rw [l11, y11, z11] at X11
      obtain ⟨rfl, N11q, e11⟩ := hQ11
      have N11 := Fr.app N5 N11q
      obtain ⟨v12, ev12⟩ : ∃ z : Int32, z = (if (cmpValue (FP.dcmp (FP.dmul (FP.l2d v6) (4607182418800017408 : UInt64)) (Own.least (FP.dmul (FP.l2d v1) (4607182418800017408 : UInt64)))) .l) < (0 : Int32) then (0 : Int32) else (1 : Int32)) := ⟨_, rfl⟩
      have hd94_13 : v8 = (0 : Int32) := by exact hc56_10
      obtain ⟨v14, ev14⟩ : ∃ z : Int64, z = ((((v6 - v1) + (0 : Int64)) * (1000000000 : Int64)) + v1) := ⟨_, rfl⟩
      obtain ⟨v15, ev15⟩ : ∃ z : Int64, z = ((v1 >>> ((16 : Int32) &&& 0x3f).toInt64) + (16 : Int64)) := ⟨_, rfl⟩
      have HD := HG _ _ ev14 ev15
      have K16 : ∀ target, Steps p.tables e below (T11.setTop (mkF m 133 #[.val (.int p0), .val (.int p1), .val (.int p2), .val (.long v1), .second, .val (.long v6), .second, .val (.int v8), .val (.double (4607182418800017408 : UInt64)), .second, .val (.double (FP.dmul (FP.l2d v6) (4607182418800017408 : UInt64))), .second, .val (.double (FP.dmul (FP.l2d v1) (4607182418800017408 : UInt64))), .second, .val (.int v12), .val (.long (0 : Int64)), .second, .val (.long v14), .second, .val (.long v15), .second] [(.int (lcmpW v6 v1))])) target → Steps p.tables e below (T5.setTop (mkF m 65 #[.val (.int p0), .val (.int p1), .val (.int p2), .val (.long v1), .second, .val (.long v6), .second, .val (.int v8), .unset, .unset, .unset, .unset, .unset, .unset, .unset, .unset, .unset, .unset, .unset, .unset, .unset] [])) target := by
        intro target kt
        show Steps p.tables e below (T5.setTop (mkF m 65 #[.val (.int p0), .val (.int p1), .val (.int p2), .val (.long v1), .second, .val (.long v6), .second, .val (.int v8), .unset, .unset, .unset, .unset, .unset, .unset, .unset, .unset, .unset, .unset, .unset, .unset, .unset] [])) _
        refine XS.dconst1 X5.here hx rfl (hb hby at_65) rfl ?_
        show Steps p.tables e below (T5.setTop (mkF m 66 #[.val (.int p0), .val (.int p1), .val (.int p2), .val (.long v1), .second, .val (.long v6), .second, .val (.int v8), .unset, .unset, .unset, .unset, .unset, .unset, .unset, .unset, .unset, .unset, .unset, .unset, .unset] [(.double (4607182418800017408 : UInt64))])) _
        refine XS.dstore X5.here hx rfl (hb hby at_66) rfl (l' := #[.val (.int p0), .val (.int p1), .val (.int p2), .val (.long v1), .second, .val (.long v6), .second, .val (.int v8), .val (.double (4607182418800017408 : UInt64)), .second, .unset, .unset, .unset, .unset, .unset, .unset, .unset, .unset, .unset, .unset, .unset]) rfl ?_
        show Steps p.tables e below (T5.setTop (mkF m 68 #[.val (.int p0), .val (.int p1), .val (.int p2), .val (.long v1), .second, .val (.long v6), .second, .val (.int v8), .val (.double (4607182418800017408 : UInt64)), .second, .unset, .unset, .unset, .unset, .unset, .unset, .unset, .unset, .unset, .unset, .unset] [])) _
        refine XS.lload X5.here hx rfl (hb hby at_68) rfl ?_
        show Steps p.tables e below (T5.setTop (mkF m 70 #[.val (.int p0), .val (.int p1), .val (.int p2), .val (.long v1), .second, .val (.long v6), .second, .val (.int v8), .val (.double (4607182418800017408 : UInt64)), .second, .unset, .unset, .unset, .unset, .unset, .unset, .unset, .unset, .unset, .unset, .unset] [(.long v6)])) _
        refine XS.l2dS X5.here hx rfl (hb hby at_70) rfl rfl ?_
        show Steps p.tables e below (T5.setTop (mkF m 71 #[.val (.int p0), .val (.int p1), .val (.int p2), .val (.long v1), .second, .val (.long v6), .second, .val (.int v8), .val (.double (4607182418800017408 : UInt64)), .second, .unset, .unset, .unset, .unset, .unset, .unset, .unset, .unset, .unset, .unset, .unset] [(.double (FP.l2d v6))])) _
        refine XS.dload X5.here hx rfl (hb hby at_71) rfl ?_
        refine XS.dmulS X5.here hx rfl (hb hby at_73) rfl (own_nn H0.1) rfl ?_
        refine XS.dstore X5.here hx rfl (hb hby at_74) rfl (l' := #[.val (.int p0), .val (.int p1), .val (.int p2), .val (.long v1), .second, .val (.long v6), .second, .val (.int v8), .val (.double (4607182418800017408 : UInt64)), .second, .val (.double (FP.dmul (FP.l2d v6) (4607182418800017408 : UInt64))), .second, .unset, .unset, .unset, .unset, .unset, .unset, .unset, .unset, .unset]) rfl ?_
        show Steps p.tables e below (T5.setTop (mkF m 76 #[.val (.int p0), .val (.int p1), .val (.int p2), .val (.long v1), .second, .val (.long v6), .second, .val (.int v8), .val (.double (4607182418800017408 : UInt64)), .second, .val (.double (FP.dmul (FP.l2d v6) (4607182418800017408 : UInt64))), .second, .unset, .unset, .unset, .unset, .unset, .unset, .unset, .unset, .unset] [])) _
        refine XS.lloadN X5.here hx rfl (hb hby at_76) rfl ?_
        refine XS.l2dS X5.here hx rfl (hb hby at_77) rfl rfl ?_
        refine XS.dload X5.here hx rfl (hb hby at_78) rfl ?_
        refine XS.dmulS X5.here hx rfl (hb hby at_80) rfl (own_nn H0.2.1) rfl ?_
        show Steps p.tables e below (T5.setTop (mkF m 81 #[.val (.int p0), .val (.int p1), .val (.int p2), .val (.long v1), .second, .val (.long v6), .second, .val (.int v8), .val (.double (4607182418800017408 : UInt64)), .second, .val (.double (FP.dmul (FP.l2d v6) (4607182418800017408 : UInt64))), .second, .unset, .unset, .unset, .unset, .unset, .unset, .unset, .unset, .unset] [(.double (FP.dmul (FP.l2d v1) (4607182418800017408 : UInt64)))])) _
        refine XS.dstore X5.here hx rfl (hb hby at_81) rfl (l' := #[.val (.int p0), .val (.int p1), .val (.int p2), .val (.long v1), .second, .val (.long v6), .second, .val (.int v8), .val (.double (4607182418800017408 : UInt64)), .second, .val (.double (FP.dmul (FP.l2d v6) (4607182418800017408 : UInt64))), .second, .val (.double (FP.dmul (FP.l2d v1) (4607182418800017408 : UInt64))), .second, .unset, .unset, .unset, .unset, .unset, .unset, .unset]) rfl ?_
        refine XS.dload X5.here hx rfl (hb hby at_83) rfl ?_
        refine XS.dload X5.here hx rfl (hb hby at_85) rfl ?_
        refine st11 _ ?_
        show Steps p.tables e below (T11.setTop (mkF m 90 #[.val (.int p0), .val (.int p1), .val (.int p2), .val (.long v1), .second, .val (.long v6), .second, .val (.int v8), .val (.double (4607182418800017408 : UInt64)), .second, .val (.double (FP.dmul (FP.l2d v6) (4607182418800017408 : UInt64))), .second, .val (.double (FP.dmul (FP.l2d v1) (4607182418800017408 : UInt64))), .second, .unset, .unset, .unset, .unset, .unset, .unset, .unset] [(.int (if (cmpValue (FP.dcmp (FP.dmul (FP.l2d v6) (4607182418800017408 : UInt64)) (Own.least (FP.dmul (FP.l2d v1) (4607182418800017408 : UInt64)))) .l) < (0 : Int32) then (0 : Int32) else (1 : Int32)))])) _
        rw [← ev12]
        show Steps p.tables e below (T11.setTop (mkF m 90 #[.val (.int p0), .val (.int p1), .val (.int p2), .val (.long v1), .second, .val (.long v6), .second, .val (.int v8), .val (.double (4607182418800017408 : UInt64)), .second, .val (.double (FP.dmul (FP.l2d v6) (4607182418800017408 : UInt64))), .second, .val (.double (FP.dmul (FP.l2d v1) (4607182418800017408 : UInt64))), .second, .unset, .unset, .unset, .unset, .unset, .unset, .unset] [(.int v12)])) _
        refine XS.istore X11.here hx rfl (hb hby at_90) rfl (l' := #[.val (.int p0), .val (.int p1), .val (.int p2), .val (.long v1), .second, .val (.long v6), .second, .val (.int v8), .val (.double (4607182418800017408 : UInt64)), .second, .val (.double (FP.dmul (FP.l2d v6) (4607182418800017408 : UInt64))), .second, .val (.double (FP.dmul (FP.l2d v1) (4607182418800017408 : UInt64))), .second, .val (.int v12), .unset, .unset, .unset, .unset, .unset, .unset]) rfl ?_
        refine XS.iload X11.here hx rfl (hb hby at_92) rfl ?_
        show Steps p.tables e below (T11.setTop (mkF m 94 #[.val (.int p0), .val (.int p1), .val (.int p2), .val (.long v1), .second, .val (.long v6), .second, .val (.int v8), .val (.double (4607182418800017408 : UInt64)), .second, .val (.double (FP.dmul (FP.l2d v6) (4607182418800017408 : UInt64))), .second, .val (.double (FP.dmul (FP.l2d v1) (4607182418800017408 : UInt64))), .second, .val (.int v12), .unset, .unset, .unset, .unset, .unset, .unset] [(.int v8)])) _
        refine XS.ifYes X11.here hx rfl (pc0 := 94) (pc' := 101) rfl (hb hby at_94) rfl ((if0 _ _).trans (teq hd94_13).1) (by decide) (by decide) ?_
        refine XS.lconst X11.here hx rfl (hb hby at_101) ?_
        refine XS.lstore X11.here hx rfl (hb hby at_102) rfl (l' := #[.val (.int p0), .val (.int p1), .val (.int p2), .val (.long v1), .second, .val (.long v6), .second, .val (.int v8), .val (.double (4607182418800017408 : UInt64)), .second, .val (.double (FP.dmul (FP.l2d v6) (4607182418800017408 : UInt64))), .second, .val (.double (FP.dmul (FP.l2d v1) (4607182418800017408 : UInt64))), .second, .val (.int v12), .val (.long (0 : Int64)), .second, .unset, .unset, .unset, .unset]) rfl ?_
        show Steps p.tables e below (T11.setTop (mkF m 104 #[.val (.int p0), .val (.int p1), .val (.int p2), .val (.long v1), .second, .val (.long v6), .second, .val (.int v8), .val (.double (4607182418800017408 : UInt64)), .second, .val (.double (FP.dmul (FP.l2d v6) (4607182418800017408 : UInt64))), .second, .val (.double (FP.dmul (FP.l2d v1) (4607182418800017408 : UInt64))), .second, .val (.int v12), .val (.long (0 : Int64)), .second, .unset, .unset, .unset, .unset] [])) _
        refine XS.lload X11.here hx rfl (hb hby at_104) rfl ?_
        refine XS.lloadN X11.here hx rfl (hb hby at_106) rfl ?_
        refine XS.lsub X11.here hx rfl (hb hby at_107) rfl ?_
        refine XS.lload X11.here hx rfl (hb hby at_108) rfl ?_
        show Steps p.tables e below (T11.setTop (mkF m 110 #[.val (.int p0), .val (.int p1), .val (.int p2), .val (.long v1), .second, .val (.long v6), .second, .val (.int v8), .val (.double (4607182418800017408 : UInt64)), .second, .val (.double (FP.dmul (FP.l2d v6) (4607182418800017408 : UInt64))), .second, .val (.double (FP.dmul (FP.l2d v1) (4607182418800017408 : UInt64))), .second, .val (.int v12), .val (.long (0 : Int64)), .second, .unset, .unset, .unset, .unset] [(.long (0 : Int64)), (.long (v6 - v1))])) _
        refine XS.ladd X11.here hx rfl (hb hby at_110) rfl ?_
        refine X11.ldc2Long hx hown (mvT hZ (hw _ (List.mem_of_getElem? (i := 15) rfl))) (g := (mkF m 111 #[.val (.int p0), .val (.int p1), .val (.int p2), .val (.long v1), .second, .val (.long v6), .second, .val (.int v8), .val (.double (4607182418800017408 : UInt64)), .second, .val (.double (FP.dmul (FP.l2d v6) (4607182418800017408 : UInt64))), .second, .val (.double (FP.dmul (FP.l2d v1) (4607182418800017408 : UInt64))), .second, .val (.int v12), .val (.long (0 : Int64)), .second, .unset, .unset, .unset, .unset] [(.long ((v6 - v1) + (0 : Int64)))])) rfl (hb hby at_111) _ ?_
        refine XS.lmul X11.here hx rfl (hb hby at_114) rfl ?_
        refine XS.lloadN X11.here hx rfl (hb hby at_115) rfl ?_
        show Steps p.tables e below (T11.setTop (mkF m 116 #[.val (.int p0), .val (.int p1), .val (.int p2), .val (.long v1), .second, .val (.long v6), .second, .val (.int v8), .val (.double (4607182418800017408 : UInt64)), .second, .val (.double (FP.dmul (FP.l2d v6) (4607182418800017408 : UInt64))), .second, .val (.double (FP.dmul (FP.l2d v1) (4607182418800017408 : UInt64))), .second, .val (.int v12), .val (.long (0 : Int64)), .second, .unset, .unset, .unset, .unset] [(.long v1), (.long (((v6 - v1) + (0 : Int64)) * (1000000000 : Int64)))])) _
        refine XS.ladd X11.here hx rfl (hb hby at_116) rfl ?_
        show Steps p.tables e below (T11.setTop (mkF m 117 #[.val (.int p0), .val (.int p1), .val (.int p2), .val (.long v1), .second, .val (.long v6), .second, .val (.int v8), .val (.double (4607182418800017408 : UInt64)), .second, .val (.double (FP.dmul (FP.l2d v6) (4607182418800017408 : UInt64))), .second, .val (.double (FP.dmul (FP.l2d v1) (4607182418800017408 : UInt64))), .second, .val (.int v12), .val (.long (0 : Int64)), .second, .unset, .unset, .unset, .unset] [(.long ((((v6 - v1) + (0 : Int64)) * (1000000000 : Int64)) + v1))])) _
        rw [← ev14]
        show Steps p.tables e below (T11.setTop (mkF m 117 #[.val (.int p0), .val (.int p1), .val (.int p2), .val (.long v1), .second, .val (.long v6), .second, .val (.int v8), .val (.double (4607182418800017408 : UInt64)), .second, .val (.double (FP.dmul (FP.l2d v6) (4607182418800017408 : UInt64))), .second, .val (.double (FP.dmul (FP.l2d v1) (4607182418800017408 : UInt64))), .second, .val (.int v12), .val (.long (0 : Int64)), .second, .unset, .unset, .unset, .unset] [(.long v14)])) _
        refine XS.lstore X11.here hx rfl (hb hby at_117) rfl (l' := #[.val (.int p0), .val (.int p1), .val (.int p2), .val (.long v1), .second, .val (.long v6), .second, .val (.int v8), .val (.double (4607182418800017408 : UInt64)), .second, .val (.double (FP.dmul (FP.l2d v6) (4607182418800017408 : UInt64))), .second, .val (.double (FP.dmul (FP.l2d v1) (4607182418800017408 : UInt64))), .second, .val (.int v12), .val (.long (0 : Int64)), .second, .val (.long v14), .second, .unset, .unset]) rfl ?_
        refine XS.lloadN X11.here hx rfl (hb hby at_119) rfl ?_
        refine XS.bipush X11.here hx rfl (hb hby at_120) ?_
        show Steps p.tables e below (T11.setTop (mkF m 122 #[.val (.int p0), .val (.int p1), .val (.int p2), .val (.long v1), .second, .val (.long v6), .second, .val (.int v8), .val (.double (4607182418800017408 : UInt64)), .second, .val (.double (FP.dmul (FP.l2d v6) (4607182418800017408 : UInt64))), .second, .val (.double (FP.dmul (FP.l2d v1) (4607182418800017408 : UInt64))), .second, .val (.int v12), .val (.long (0 : Int64)), .second, .val (.long v14), .second, .unset, .unset] [(.int (16 : Int32)), (.long v1)])) _
        refine XS.lshr X11.here hx rfl (hb hby at_122) rfl ?_
        refine X11.ldc2Long hx hown (mvT hZ (hw _ (List.mem_of_getElem? (i := 16) rfl))) (g := (mkF m 123 #[.val (.int p0), .val (.int p1), .val (.int p2), .val (.long v1), .second, .val (.long v6), .second, .val (.int v8), .val (.double (4607182418800017408 : UInt64)), .second, .val (.double (FP.dmul (FP.l2d v6) (4607182418800017408 : UInt64))), .second, .val (.double (FP.dmul (FP.l2d v1) (4607182418800017408 : UInt64))), .second, .val (.int v12), .val (.long (0 : Int64)), .second, .val (.long v14), .second, .unset, .unset] [(.long (v1 >>> ((16 : Int32) &&& 0x3f).toInt64))])) rfl (hb hby at_123) _ ?_
        refine XS.ladd X11.here hx rfl (hb hby at_126) rfl ?_
        show Steps p.tables e below (T11.setTop (mkF m 127 #[.val (.int p0), .val (.int p1), .val (.int p2), .val (.long v1), .second, .val (.long v6), .second, .val (.int v8), .val (.double (4607182418800017408 : UInt64)), .second, .val (.double (FP.dmul (FP.l2d v6) (4607182418800017408 : UInt64))), .second, .val (.double (FP.dmul (FP.l2d v1) (4607182418800017408 : UInt64))), .second, .val (.int v12), .val (.long (0 : Int64)), .second, .val (.long v14), .second, .unset, .unset] [(.long ((v1 >>> ((16 : Int32) &&& 0x3f).toInt64) + (16 : Int64)))])) _
        rw [← ev15]
        show Steps p.tables e below (T11.setTop (mkF m 127 #[.val (.int p0), .val (.int p1), .val (.int p2), .val (.long v1), .second, .val (.long v6), .second, .val (.int v8), .val (.double (4607182418800017408 : UInt64)), .second, .val (.double (FP.dmul (FP.l2d v6) (4607182418800017408 : UInt64))), .second, .val (.double (FP.dmul (FP.l2d v1) (4607182418800017408 : UInt64))), .second, .val (.int v12), .val (.long (0 : Int64)), .second, .val (.long v14), .second, .unset, .unset] [(.long v15)])) _
        refine XS.lstore X11.here hx rfl (hb hby at_127) rfl (l' := #[.val (.int p0), .val (.int p1), .val (.int p2), .val (.long v1), .second, .val (.long v6), .second, .val (.int v8), .val (.double (4607182418800017408 : UInt64)), .second, .val (.double (FP.dmul (FP.l2d v6) (4607182418800017408 : UInt64))), .second, .val (.double (FP.dmul (FP.l2d v1) (4607182418800017408 : UInt64))), .second, .val (.int v12), .val (.long (0 : Int64)), .second, .val (.long v14), .second, .val (.long v15), .second]) rfl ?_
        show Steps p.tables e below (T11.setTop (mkF m 129 #[.val (.int p0), .val (.int p1), .val (.int p2), .val (.long v1), .second, .val (.long v6), .second, .val (.int v8), .val (.double (4607182418800017408 : UInt64)), .second, .val (.double (FP.dmul (FP.l2d v6) (4607182418800017408 : UInt64))), .second, .val (.double (FP.dmul (FP.l2d v1) (4607182418800017408 : UInt64))), .second, .val (.int v12), .val (.long (0 : Int64)), .second, .val (.long v14), .second, .val (.long v15), .second] [])) _
        refine XS.lload X11.here hx rfl (hb hby at_129) rfl ?_
        refine XS.lloadN X11.here hx rfl (hb hby at_131) rfl ?_
        refine XS.lcmp X11.here hx rfl (hb hby at_132) rfl ?_
        exact kt
      refine Done.of ?_ K16
      by_cases hc133_17 : v6 < v1
      · have K : ∀ target, Steps p.tables e below (T11.setTop (mkF m 139 #[.val (.int p0), .val (.int p1), .val (.int p2), .val (.long v1), .second, .val (.long v6), .second, .val (.int v8), .val (.double (4607182418800017408 : UInt64)), .second, .val (.double (FP.dmul (FP.l2d v6) (4607182418800017408 : UInt64))), .second, .val (.double (FP.dmul (FP.l2d v1) (4607182418800017408 : UInt64))), .second, .val (.int v12), .val (.long (0 : Int64)), .second, .val (.long v14), .second, .val (.long v15), .second] [])) target → Steps p.tables e below (T11.setTop (mkF m 133 #[.val (.int p0), .val (.int p1), .val (.int p2), .val (.long v1), .second, .val (.long v6), .second, .val (.int v8), .val (.double (4607182418800017408 : UInt64)), .second, .val (.double (FP.dmul (FP.l2d v6) (4607182418800017408 : UInt64))), .second, .val (.double (FP.dmul (FP.l2d v1) (4607182418800017408 : UInt64))), .second, .val (.int v12), .val (.long (0 : Int64)), .second, .val (.long v14), .second, .val (.long v15), .second] [(.int (lcmpW v6 v1))])) target := by
          intro target kt
          refine XS.ifYes X11.here hx rfl (pc0 := 133) (pc' := 139) rfl (hb hby at_133) rfl ((if0 _ _).trans (tlt ((lw_lt v6 v1).mpr hc133_17)).1) (by decide) (by decide) ?_
          exact kt
        refine Done.of ?_ K
        have K18 : ∀ target, Steps p.tables e below (T11.setTop (mkF m 144 #[.val (.int p0), .val (.int p1), .val (.int p2), .val (.long v1), .second, .val (.long v6), .second, .val (.int v8), .val (.double (4607182418800017408 : UInt64)), .second, .val (.double (FP.dmul (FP.l2d v6) (4607182418800017408 : UInt64))), .second, .val (.double (FP.dmul (FP.l2d v1) (4607182418800017408 : UInt64))), .second, .val (.int v12), .val (.long (0 : Int64)), .second, .val (.long v14), .second, .val (.long v15), .second] [(.int (lcmpW v14 v15))])) target → Steps p.tables e below (T11.setTop (mkF m 139 #[.val (.int p0), .val (.int p1), .val (.int p2), .val (.long v1), .second, .val (.long v6), .second, .val (.int v8), .val (.double (4607182418800017408 : UInt64)), .second, .val (.double (FP.dmul (FP.l2d v6) (4607182418800017408 : UInt64))), .second, .val (.double (FP.dmul (FP.l2d v1) (4607182418800017408 : UInt64))), .second, .val (.int v12), .val (.long (0 : Int64)), .second, .val (.long v14), .second, .val (.long v15), .second] [])) target := by
          intro target kt
          refine XS.lload X11.here hx rfl (hb hby at_139) rfl ?_
          show Steps p.tables e below (T11.setTop (mkF m 141 #[.val (.int p0), .val (.int p1), .val (.int p2), .val (.long v1), .second, .val (.long v6), .second, .val (.int v8), .val (.double (4607182418800017408 : UInt64)), .second, .val (.double (FP.dmul (FP.l2d v6) (4607182418800017408 : UInt64))), .second, .val (.double (FP.dmul (FP.l2d v1) (4607182418800017408 : UInt64))), .second, .val (.int v12), .val (.long (0 : Int64)), .second, .val (.long v14), .second, .val (.long v15), .second] [(.long v14)])) _
          refine XS.lload X11.here hx rfl (hb hby at_141) rfl ?_
          refine XS.lcmp X11.here hx rfl (hb hby at_143) rfl ?_
          exact kt
        refine Done.of ?_ K18
        by_cases hc144_19 : v14 < v15
        · have K : ∀ target, Steps p.tables e below (T11.setTop (mkF m 150 #[.val (.int p0), .val (.int p1), .val (.int p2), .val (.long v1), .second, .val (.long v6), .second, .val (.int v8), .val (.double (4607182418800017408 : UInt64)), .second, .val (.double (FP.dmul (FP.l2d v6) (4607182418800017408 : UInt64))), .second, .val (.double (FP.dmul (FP.l2d v1) (4607182418800017408 : UInt64))), .second, .val (.int v12), .val (.long (0 : Int64)), .second, .val (.long v14), .second, .val (.long v15), .second] [])) target → Steps p.tables e below (T11.setTop (mkF m 144 #[.val (.int p0), .val (.int p1), .val (.int p2), .val (.long v1), .second, .val (.long v6), .second, .val (.int v8), .val (.double (4607182418800017408 : UInt64)), .second, .val (.double (FP.dmul (FP.l2d v6) (4607182418800017408 : UInt64))), .second, .val (.double (FP.dmul (FP.l2d v1) (4607182418800017408 : UInt64))), .second, .val (.int v12), .val (.long (0 : Int64)), .second, .val (.long v14), .second, .val (.long v15), .second] [(.int (lcmpW v14 v15))])) target := by
            intro target kt
            refine XS.ifYes X11.here hx rfl (pc0 := 144) (pc' := 150) rfl (hb hby at_144) rfl ((if0 _ _).trans (tlt ((lw_lt v14 v15).mpr hc144_19)).1) (by decide) (by decide) ?_
            exact kt
          refine Done.of ?_ K
          have K20 : ∀ target, Steps p.tables e below (T11.setTop (mkF m 156 #[.val (.int p0), .val (.int p1), .val (.int p2), .val (.long v1), .second, .val (.long v6), .second, .val (.int v8), .val (.double (4607182418800017408 : UInt64)), .second, .val (.double (FP.dmul (FP.l2d v6) (4607182418800017408 : UInt64))), .second, .val (.double (FP.dmul (FP.l2d v1) (4607182418800017408 : UInt64))), .second, .val (.int v12), .val (.long (0 : Int64)), .second, .val (.long v14), .second, .val (.long v15), .second] [(.int (lcmpW v14 (-v15)))])) target → Steps p.tables e below (T11.setTop (mkF m 150 #[.val (.int p0), .val (.int p1), .val (.int p2), .val (.long v1), .second, .val (.long v6), .second, .val (.int v8), .val (.double (4607182418800017408 : UInt64)), .second, .val (.double (FP.dmul (FP.l2d v6) (4607182418800017408 : UInt64))), .second, .val (.double (FP.dmul (FP.l2d v1) (4607182418800017408 : UInt64))), .second, .val (.int v12), .val (.long (0 : Int64)), .second, .val (.long v14), .second, .val (.long v15), .second] [])) target := by
            intro target kt
            refine XS.lload X11.here hx rfl (hb hby at_150) rfl ?_
            refine XS.lload X11.here hx rfl (hb hby at_152) rfl ?_
            show Steps p.tables e below (T11.setTop (mkF m 154 #[.val (.int p0), .val (.int p1), .val (.int p2), .val (.long v1), .second, .val (.long v6), .second, .val (.int v8), .val (.double (4607182418800017408 : UInt64)), .second, .val (.double (FP.dmul (FP.l2d v6) (4607182418800017408 : UInt64))), .second, .val (.double (FP.dmul (FP.l2d v1) (4607182418800017408 : UInt64))), .second, .val (.int v12), .val (.long (0 : Int64)), .second, .val (.long v14), .second, .val (.long v15), .second] [(.long v15), (.long v14)])) _
            refine XS.lneg X11.here hx rfl (hb hby at_154) rfl ?_
            refine XS.lcmp X11.here hx rfl (hb hby at_155) rfl ?_
            exact kt
          refine Done.of ?_ K20
          by_cases hc156_21 : (-v15) < v14
          · have K : ∀ target, Steps p.tables e below (T11.setTop (mkF m 170 #[.val (.int p0), .val (.int p1), .val (.int p2), .val (.long v1), .second, .val (.long v6), .second, .val (.int v8), .val (.double (4607182418800017408 : UInt64)), .second, .val (.double (FP.dmul (FP.l2d v6) (4607182418800017408 : UInt64))), .second, .val (.double (FP.dmul (FP.l2d v1) (4607182418800017408 : UInt64))), .second, .val (.int v12), .val (.long (0 : Int64)), .second, .val (.long v14), .second, .val (.long v15), .second] [])) target → Steps p.tables e below (T11.setTop (mkF m 156 #[.val (.int p0), .val (.int p1), .val (.int p2), .val (.long v1), .second, .val (.long v6), .second, .val (.int v8), .val (.double (4607182418800017408 : UInt64)), .second, .val (.double (FP.dmul (FP.l2d v6) (4607182418800017408 : UInt64))), .second, .val (.double (FP.dmul (FP.l2d v1) (4607182418800017408 : UInt64))), .second, .val (.int v12), .val (.long (0 : Int64)), .second, .val (.long v14), .second, .val (.long v15), .second] [(.int (lcmpW v14 (-v15)))])) target := by
              intro target kt
              refine XS.ifYes X11.here hx rfl (pc0 := 156) (pc' := 170) rfl (hb hby at_156) rfl ((if0 _ _).trans (tlt ((lw_gt v14 (-v15)).mpr hc156_21)).2.2.1) (by decide) (by decide) ?_
              exact kt
            refine Done.of ?_ K
            obtain ⟨fs, hr, hrun, hended, hW, hsame⟩ := X11.leave (v := some (.int (1 : Int32))) (fun h => by rw [Bd.returns] at h; cases h)
            refine ⟨_, _, ?_, hrun, hended, _, _, rfl, ?_, ⟨_, rfl⟩, hW, hsame.mono (by decide) (by decide)⟩
            · refine XS.iconst X11.here hx rfl (hb hby at_170) ?_
              show Steps p.tables e below (T11.setTop (mkF m 171 #[.val (.int p0), .val (.int p1), .val (.int p2), .val (.long v1), .second, .val (.long v6), .second, .val (.int v8), .val (.double (4607182418800017408 : UInt64)), .second, .val (.double (FP.dmul (FP.l2d v6) (4607182418800017408 : UInt64))), .second, .val (.double (FP.dmul (FP.l2d v1) (4607182418800017408 : UInt64))), .second, .val (.int v12), .val (.long (0 : Int64)), .second, .val (.long v14), .second, .val (.long v15), .second] [(.int (1 : Int32))])) _
              exact retN X11 hx (t := .boolean) Bd.returns (by simp) (hb hby at_171) hr
            · show Q0 Z p0 p1 p2  h0 n0 _ T11.heap _
              rw [e11]
              exact ⟨rfl, N11⟩
          · have K : ∀ target, Steps p.tables e below (T11.setTop (mkF m 159 #[.val (.int p0), .val (.int p1), .val (.int p2), .val (.long v1), .second, .val (.long v6), .second, .val (.int v8), .val (.double (4607182418800017408 : UInt64)), .second, .val (.double (FP.dmul (FP.l2d v6) (4607182418800017408 : UInt64))), .second, .val (.double (FP.dmul (FP.l2d v1) (4607182418800017408 : UInt64))), .second, .val (.int v12), .val (.long (0 : Int64)), .second, .val (.long v14), .second, .val (.long v15), .second] [])) target → Steps p.tables e below (T11.setTop (mkF m 156 #[.val (.int p0), .val (.int p1), .val (.int p2), .val (.long v1), .second, .val (.long v6), .second, .val (.int v8), .val (.double (4607182418800017408 : UInt64)), .second, .val (.double (FP.dmul (FP.l2d v6) (4607182418800017408 : UInt64))), .second, .val (.double (FP.dmul (FP.l2d v1) (4607182418800017408 : UInt64))), .second, .val (.int v12), .val (.long (0 : Int64)), .second, .val (.long v14), .second, .val (.long v15), .second] [(.int (lcmpW v14 (-v15)))])) target := by
              intro target kt
              refine XS.ifNo X11.here hx rfl (hb hby at_156) rfl ((if0 _ _).trans (flt (fun q => hc156_21 ((lw_gt v14 (-v15)).mp q))).2.2.1) ?_
              exact kt
            refine Done.of ?_ K
            have J161_22 : ∀ wj : Int32, wj = (if v12 = (0 : Int32) then (1 : Int32) else (0 : Int32)) → ∀ target, Steps p.tables e below (T11.setTop (mkF m 169 #[.val (.int p0), .val (.int p1), .val (.int p2), .val (.long v1), .second, .val (.long v6), .second, .val (.int v8), .val (.double (4607182418800017408 : UInt64)), .second, .val (.double (FP.dmul (FP.l2d v6) (4607182418800017408 : UInt64))), .second, .val (.double (FP.dmul (FP.l2d v1) (4607182418800017408 : UInt64))), .second, .val (.int v12), .val (.long (0 : Int64)), .second, .val (.long v14), .second, .val (.long v15), .second] [(.int wj)])) target → Steps p.tables e below (T11.setTop (mkF m 161 #[.val (.int p0), .val (.int p1), .val (.int p2), .val (.long v1), .second, .val (.long v6), .second, .val (.int v8), .val (.double (4607182418800017408 : UInt64)), .second, .val (.double (FP.dmul (FP.l2d v6) (4607182418800017408 : UInt64))), .second, .val (.double (FP.dmul (FP.l2d v1) (4607182418800017408 : UInt64))), .second, .val (.int v12), .val (.long (0 : Int64)), .second, .val (.long v14), .second, .val (.long v15), .second] [(.int v12)])) target := by
              intro wj hw0 target kt
              by_cases hj161 : v12 = (0 : Int32)
              · rw [if_pos hj161] at hw0
                show Steps p.tables e below (T11.setTop (mkF m 161 #[.val (.int p0), .val (.int p1), .val (.int p2), .val (.long v1), .second, .val (.long v6), .second, .val (.int v8), .val (.double (4607182418800017408 : UInt64)), .second, .val (.double (FP.dmul (FP.l2d v6) (4607182418800017408 : UInt64))), .second, .val (.double (FP.dmul (FP.l2d v1) (4607182418800017408 : UInt64))), .second, .val (.int v12), .val (.long (0 : Int64)), .second, .val (.long v14), .second, .val (.long v15), .second] [(.int v12)])) _
                refine XS.ifNo X11.here hx rfl (hb hby at_161) rfl ((if0 _ _).trans (teq hj161).2) ?_
                show Steps p.tables e below (T11.setTop (mkF m 164 #[.val (.int p0), .val (.int p1), .val (.int p2), .val (.long v1), .second, .val (.long v6), .second, .val (.int v8), .val (.double (4607182418800017408 : UInt64)), .second, .val (.double (FP.dmul (FP.l2d v6) (4607182418800017408 : UInt64))), .second, .val (.double (FP.dmul (FP.l2d v1) (4607182418800017408 : UInt64))), .second, .val (.int v12), .val (.long (0 : Int64)), .second, .val (.long v14), .second, .val (.long v15), .second] [])) _
                refine XS.iconst X11.here hx rfl (hb hby at_164) ?_
                show Steps p.tables e below (T11.setTop (mkF m 165 #[.val (.int p0), .val (.int p1), .val (.int p2), .val (.long v1), .second, .val (.long v6), .second, .val (.int v8), .val (.double (4607182418800017408 : UInt64)), .second, .val (.double (FP.dmul (FP.l2d v6) (4607182418800017408 : UInt64))), .second, .val (.double (FP.dmul (FP.l2d v1) (4607182418800017408 : UInt64))), .second, .val (.int v12), .val (.long (0 : Int64)), .second, .val (.long v14), .second, .val (.long v15), .second] [(.int (1 : Int32))])) _
                refine XS.goto X11.here hx rfl (pc0 := 165) (pc' := 169) rfl (hb hby at_165) (by decide) (by decide) ?_
                rw [hw0] at kt
                exact kt
              · rw [if_neg hj161] at hw0
                show Steps p.tables e below (T11.setTop (mkF m 161 #[.val (.int p0), .val (.int p1), .val (.int p2), .val (.long v1), .second, .val (.long v6), .second, .val (.int v8), .val (.double (4607182418800017408 : UInt64)), .second, .val (.double (FP.dmul (FP.l2d v6) (4607182418800017408 : UInt64))), .second, .val (.double (FP.dmul (FP.l2d v1) (4607182418800017408 : UInt64))), .second, .val (.int v12), .val (.long (0 : Int64)), .second, .val (.long v14), .second, .val (.long v15), .second] [(.int v12)])) _
                refine XS.ifYes X11.here hx rfl (pc0 := 161) (pc' := 168) rfl (hb hby at_161) rfl ((if0 _ _).trans (feq hj161).2) (by decide) (by decide) ?_
                refine XS.iconst X11.here hx rfl (hb hby at_168) ?_
                rw [hw0] at kt
                exact kt
            obtain ⟨fs, hr, hrun, hended, hW, hsame⟩ := X11.leave (v := some (.int (nar .boolean (if v12 = (0 : Int32) then (1 : Int32) else (0 : Int32))))) (fun h => by rw [Bd.returns] at h; cases h)
            refine ⟨_, _, ?_, hrun, hended, _, _, rfl, ?_, ⟨_, rfl⟩, hW, hsame.mono (by decide) (by decide)⟩
            · refine XS.iload X11.here hx rfl (hb hby at_159) rfl ?_
              show Steps p.tables e below (T11.setTop (mkF m 161 #[.val (.int p0), .val (.int p1), .val (.int p2), .val (.long v1), .second, .val (.long v6), .second, .val (.int v8), .val (.double (4607182418800017408 : UInt64)), .second, .val (.double (FP.dmul (FP.l2d v6) (4607182418800017408 : UInt64))), .second, .val (.double (FP.dmul (FP.l2d v1) (4607182418800017408 : UInt64))), .second, .val (.int v12), .val (.long (0 : Int64)), .second, .val (.long v14), .second, .val (.long v15), .second] [(.int v12)])) _
              refine J161_22 _ rfl _ ?_
              show Steps p.tables e below (T11.setTop (mkF m 169 #[.val (.int p0), .val (.int p1), .val (.int p2), .val (.long v1), .second, .val (.long v6), .second, .val (.int v8), .val (.double (4607182418800017408 : UInt64)), .second, .val (.double (FP.dmul (FP.l2d v6) (4607182418800017408 : UInt64))), .second, .val (.double (FP.dmul (FP.l2d v1) (4607182418800017408 : UInt64))), .second, .val (.int v12), .val (.long (0 : Int64)), .second, .val (.long v14), .second, .val (.long v15), .second] [(.int (if v12 = (0 : Int32) then (1 : Int32) else (0 : Int32)))])) _
              exact retN X11 hx (t := .boolean) Bd.returns (by simp) (hb hby at_169) hr
            · show Q0 Z p0 p1 p2  h0 n0 _ T11.heap _
              rw [e11]
              have hgot := ev12.trans (if_pos (HD.2.2.2.2.2.2.2 hc133_17 hc156_21))
              rw [hgot]
              exact ⟨rfl, N11⟩
        · have K : ∀ target, Steps p.tables e below (T11.setTop (mkF m 147 #[.val (.int p0), .val (.int p1), .val (.int p2), .val (.long v1), .second, .val (.long v6), .second, .val (.int v8), .val (.double (4607182418800017408 : UInt64)), .second, .val (.double (FP.dmul (FP.l2d v6) (4607182418800017408 : UInt64))), .second, .val (.double (FP.dmul (FP.l2d v1) (4607182418800017408 : UInt64))), .second, .val (.int v12), .val (.long (0 : Int64)), .second, .val (.long v14), .second, .val (.long v15), .second] [])) target → Steps p.tables e below (T11.setTop (mkF m 144 #[.val (.int p0), .val (.int p1), .val (.int p2), .val (.long v1), .second, .val (.long v6), .second, .val (.int v8), .val (.double (4607182418800017408 : UInt64)), .second, .val (.double (FP.dmul (FP.l2d v6) (4607182418800017408 : UInt64))), .second, .val (.double (FP.dmul (FP.l2d v1) (4607182418800017408 : UInt64))), .second, .val (.int v12), .val (.long (0 : Int64)), .second, .val (.long v14), .second, .val (.long v15), .second] [(.int (lcmpW v14 v15))])) target := by
            intro target kt
            refine XS.ifNo X11.here hx rfl (hb hby at_144) rfl ((if0 _ _).trans (flt (fun q => hc144_19 ((lw_lt v14 v15).mp q))).1) ?_
            exact kt
          refine Done.of ?_ K
          obtain ⟨fs, hr, hrun, hended, hW, hsame⟩ := X11.leave (v := some (.int (nar .boolean v12))) (fun h => by rw [Bd.returns] at h; cases h)
          refine ⟨_, _, ?_, hrun, hended, _, _, rfl, ?_, ⟨_, rfl⟩, hW, hsame.mono (by decide) (by decide)⟩
          · refine XS.iload X11.here hx rfl (hb hby at_147) rfl ?_
            show Steps p.tables e below (T11.setTop (mkF m 149 #[.val (.int p0), .val (.int p1), .val (.int p2), .val (.long v1), .second, .val (.long v6), .second, .val (.int v8), .val (.double (4607182418800017408 : UInt64)), .second, .val (.double (FP.dmul (FP.l2d v6) (4607182418800017408 : UInt64))), .second, .val (.double (FP.dmul (FP.l2d v1) (4607182418800017408 : UInt64))), .second, .val (.int v12), .val (.long (0 : Int64)), .second, .val (.long v14), .second, .val (.long v15), .second] [(.int v12)])) _
            exact retN X11 hx (t := .boolean) Bd.returns (by simp) (hb hby at_149) hr
          · show Q0 Z p0 p1 p2  h0 n0 _ T11.heap _
            rw [e11]
            have hgot := ev12.trans (if_neg (HD.2.2.2.2.2.2.1 hc133_17 hc144_19))
            rw [hgot]
            exact ⟨rfl, N11⟩
      · have K : ∀ target, Steps p.tables e below (T11.setTop (mkF m 136 #[.val (.int p0), .val (.int p1), .val (.int p2), .val (.long v1), .second, .val (.long v6), .second, .val (.int v8), .val (.double (4607182418800017408 : UInt64)), .second, .val (.double (FP.dmul (FP.l2d v6) (4607182418800017408 : UInt64))), .second, .val (.double (FP.dmul (FP.l2d v1) (4607182418800017408 : UInt64))), .second, .val (.int v12), .val (.long (0 : Int64)), .second, .val (.long v14), .second, .val (.long v15), .second] [])) target → Steps p.tables e below (T11.setTop (mkF m 133 #[.val (.int p0), .val (.int p1), .val (.int p2), .val (.long v1), .second, .val (.long v6), .second, .val (.int v8), .val (.double (4607182418800017408 : UInt64)), .second, .val (.double (FP.dmul (FP.l2d v6) (4607182418800017408 : UInt64))), .second, .val (.double (FP.dmul (FP.l2d v1) (4607182418800017408 : UInt64))), .second, .val (.int v12), .val (.long (0 : Int64)), .second, .val (.long v14), .second, .val (.long v15), .second] [(.int (lcmpW v6 v1))])) target := by
          intro target kt
          refine XS.ifNo X11.here hx rfl (hb hby at_133) rfl ((if0 _ _).trans (flt (fun q => hc133_17 ((lw_lt v6 v1).mp q))).1) ?_
          exact kt
        refine Done.of ?_ K
        obtain ⟨fs, hr, hrun, hended, hW, hsame⟩ := X11.leave (v := some (.int (nar .boolean v12))) (fun h => by rw [Bd.returns] at h; cases h)
        refine ⟨_, _, ?_, hrun, hended, _, _, rfl, ?_, ⟨_, rfl⟩, hW, hsame.mono (by decide) (by decide)⟩
        · refine XS.iload X11.here hx rfl (hb hby at_136) rfl ?_
          show Steps p.tables e below (T11.setTop (mkF m 138 #[.val (.int p0), .val (.int p1), .val (.int p2), .val (.long v1), .second, .val (.long v6), .second, .val (.int v8), .val (.double (4607182418800017408 : UInt64)), .second, .val (.double (FP.dmul (FP.l2d v6) (4607182418800017408 : UInt64))), .second, .val (.double (FP.dmul (FP.l2d v1) (4607182418800017408 : UInt64))), .second, .val (.int v12), .val (.long (0 : Int64)), .second, .val (.long v14), .second, .val (.long v15), .second] [(.int v12)])) _
          exact retN X11 hx (t := .boolean) Bd.returns (by simp) (hb hby at_138) hr
        · show Q0 Z p0 p1 p2  h0 n0 _ T11.heap _
          rw [e11]
          have hgot := ev12.trans (if_neg (HD.2.2.2.2.2.1 hc133_17))
          rw [hgot]
          exact ⟨rfl, N11⟩
    · have K : ∀ target, Steps p.tables e below (T5.setTop (mkF m 59 #[.val (.int p0), .val (.int p1), .val (.int p2), .val (.long v1), .second, .val (.long v6), .second, .val (.int v8), .unset, .unset, .unset, .unset, .unset, .unset, .unset, .unset, .unset, .unset, .unset, .unset, .unset] [])) target → Steps p.tables e below (T5.setTop (mkF m 56 #[.val (.int p0), .val (.int p1), .val (.int p2), .val (.long v1), .second, .val (.long v6), .second, .val (.int v8), .unset, .unset, .unset, .unset, .unset, .unset, .unset, .unset, .unset, .unset, .unset, .unset, .unset] [(.int v8)])) target := by
        intro target kt
        refine XS.ifNo X5.here hx rfl (hb hby at_56) rfl ((if0 _ _).trans (feq hc56_10).1) ?_
        exact kt
      refine Done.of ?_ K
      have HT := own_t ev1
      have HR := own_r2 ev4 ev6
      have HG := fun (d mg : Int64) (ed : d = ((((v6 - v1) + (1 : Int64)) * (1000000000 : Int64)) + v1)) (em : mg = ((v1 >>> ((16 : Int32) &&& 0x3f).toInt64) + (16 : Int64))) => own_two (fl := (1 : Int64)) (sc := (4503599627370496 : UInt64)) HT HR (Or.inr ⟨rfl, rfl⟩) ed em
      have H0 := HG _ _ rfl rfl
      obtain ⟨_, _, ⟨T23, L23, k23, n23⟩, -, X23, ⟨Lc23, hQ23, l23, y23, z23⟩, st23⟩ := Jvm.LawKit.callS X5 hx (y := (⟨"com/example/lotwise/lotwise/Relaxation", "mayReach", "(DD)Z"⟩ : MethodName)) hown (mvT hZ (hw _ (List.mem_of_getElem? (i := 6) rfl))) (mvT hZ (hw _ (List.mem_of_getElem? (i := 7) rfl))) (mvT hZ (hw _ (List.mem_of_getElem? (i := 8) rfl))) (mvT hZ (hw _ (List.mem_of_getElem? (i := 9) rfl))) (by decide) (backOf (W := 0) (rm2 l Z a0 hw [] (FP.dmul (FP.l2d v6) (4503599627370496 : UInt64)) (FP.dmul (FP.l2d v1) (4503599627370496 : UInt64)) h0 n0 Z0 H0.2.2.1 H0.2.2.2.1 H0.2.2.2.2.1) hZ (hw _ (List.mem_of_getElem? (i := 9) rfl)) (hw _ (List.mem_of_getElem? (i := 8) rfl)) (by decide) (by decide)) (g := (mkF m 87 #[.val (.int p0), .val (.int p1), .val (.int p2), .val (.long v1), .second, .val (.long v6), .second, .val (.int v8), .val (.double (4503599627370496 : UInt64)), .second, .val (.double (FP.dmul (FP.l2d v6) (4503599627370496 : UInt64))), .second, .val (.double (FP.dmul (FP.l2d v1) (4503599627370496 : UInt64))), .second, .unset, .unset, .unset, .unset, .unset, .unset, .unset] [(.double (FP.dmul (FP.l2d v1) (4503599627370496 : UInt64))), (.double (FP.dmul (FP.l2d v6) (4503599627370496 : UInt64)))])) rfl (by rw [hml]; rfl) (argsL := [(.double (FP.dmul (FP.l2d v6) (4503599627370496 : UInt64))), (.double (FP.dmul (FP.l2d v1) (4503599627370496 : UInt64)))]) (rest := []) (lenOf pd_2 rfl) rfl (by show 2 * 0 + _ ≤ _; exact Nat.le_of_eq rfl) (hb hby at_87) (fun _ _ => ⟨rfl, e5, (by decide : 0 + 0 ≤ _), (by decide : 0 + 0 ≤ _)⟩)
      dsimp only [Pt.U, Pt.locs, Pt.cells, Pt.slots] at X23 l23 y23 z23 st23 hQ23
      rw [l23, y23, z23] at X23
      obtain ⟨rfl, N23q, e23⟩ := hQ23
      have N23 := Fr.app N5 N23q
      obtain ⟨v24, ev24⟩ : ∃ z : Int32, z = (if (cmpValue (FP.dcmp (FP.dmul (FP.l2d v6) (4503599627370496 : UInt64)) (Own.least (FP.dmul (FP.l2d v1) (4503599627370496 : UInt64)))) .l) < (0 : Int32) then (0 : Int32) else (1 : Int32)) := ⟨_, rfl⟩
      have hd94_25 : ¬ (v8 = (0 : Int32)) := by exact hc56_10
      obtain ⟨v26, ev26⟩ : ∃ z : Int64, z = ((((v6 - v1) + (1 : Int64)) * (1000000000 : Int64)) + v1) := ⟨_, rfl⟩
      obtain ⟨v27, ev27⟩ : ∃ z : Int64, z = ((v1 >>> ((16 : Int32) &&& 0x3f).toInt64) + (16 : Int64)) := ⟨_, rfl⟩
      have HD := HG _ _ ev26 ev27
      have K28 : ∀ target, Steps p.tables e below (T23.setTop (mkF m 133 #[.val (.int p0), .val (.int p1), .val (.int p2), .val (.long v1), .second, .val (.long v6), .second, .val (.int v8), .val (.double (4503599627370496 : UInt64)), .second, .val (.double (FP.dmul (FP.l2d v6) (4503599627370496 : UInt64))), .second, .val (.double (FP.dmul (FP.l2d v1) (4503599627370496 : UInt64))), .second, .val (.int v24), .val (.long (1 : Int64)), .second, .val (.long v26), .second, .val (.long v27), .second] [(.int (lcmpW v6 v1))])) target → Steps p.tables e below (T5.setTop (mkF m 59 #[.val (.int p0), .val (.int p1), .val (.int p2), .val (.long v1), .second, .val (.long v6), .second, .val (.int v8), .unset, .unset, .unset, .unset, .unset, .unset, .unset, .unset, .unset, .unset, .unset, .unset, .unset] [])) target := by
        intro target kt
        show Steps p.tables e below (T5.setTop (mkF m 59 #[.val (.int p0), .val (.int p1), .val (.int p2), .val (.long v1), .second, .val (.long v6), .second, .val (.int v8), .unset, .unset, .unset, .unset, .unset, .unset, .unset, .unset, .unset, .unset, .unset, .unset, .unset] [])) _
        refine X5.ldc2DoubleC hx hown (mvT hZ (hw _ (List.mem_of_getElem? (i := 5) rfl))) (g := (mkF m 59 #[.val (.int p0), .val (.int p1), .val (.int p2), .val (.long v1), .second, .val (.long v6), .second, .val (.int v8), .unset, .unset, .unset, .unset, .unset, .unset, .unset, .unset, .unset, .unset, .unset, .unset, .unset] [])) rfl (hb hby at_59) _ ?_
        show Steps p.tables e below (T5.setTop (mkF m 62 #[.val (.int p0), .val (.int p1), .val (.int p2), .val (.long v1), .second, .val (.long v6), .second, .val (.int v8), .unset, .unset, .unset, .unset, .unset, .unset, .unset, .unset, .unset, .unset, .unset, .unset, .unset] [(.double (4503599627370496 : UInt64))])) _
        refine XS.goto X5.here hx rfl (pc0 := 62) (pc' := 66) rfl (hb hby at_62) (by decide) (by decide) ?_
        show Steps p.tables e below (T5.setTop (mkF m 66 #[.val (.int p0), .val (.int p1), .val (.int p2), .val (.long v1), .second, .val (.long v6), .second, .val (.int v8), .unset, .unset, .unset, .unset, .unset, .unset, .unset, .unset, .unset, .unset, .unset, .unset, .unset] [(.double (4503599627370496 : UInt64))])) _
        refine XS.dstore X5.here hx rfl (hb hby at_66) rfl (l' := #[.val (.int p0), .val (.int p1), .val (.int p2), .val (.long v1), .second, .val (.long v6), .second, .val (.int v8), .val (.double (4503599627370496 : UInt64)), .second, .unset, .unset, .unset, .unset, .unset, .unset, .unset, .unset, .unset, .unset, .unset]) rfl ?_
        show Steps p.tables e below (T5.setTop (mkF m 68 #[.val (.int p0), .val (.int p1), .val (.int p2), .val (.long v1), .second, .val (.long v6), .second, .val (.int v8), .val (.double (4503599627370496 : UInt64)), .second, .unset, .unset, .unset, .unset, .unset, .unset, .unset, .unset, .unset, .unset, .unset] [])) _
        refine XS.lload X5.here hx rfl (hb hby at_68) rfl ?_
        show Steps p.tables e below (T5.setTop (mkF m 70 #[.val (.int p0), .val (.int p1), .val (.int p2), .val (.long v1), .second, .val (.long v6), .second, .val (.int v8), .val (.double (4503599627370496 : UInt64)), .second, .unset, .unset, .unset, .unset, .unset, .unset, .unset, .unset, .unset, .unset, .unset] [(.long v6)])) _
        refine XS.l2dS X5.here hx rfl (hb hby at_70) rfl rfl ?_
        show Steps p.tables e below (T5.setTop (mkF m 71 #[.val (.int p0), .val (.int p1), .val (.int p2), .val (.long v1), .second, .val (.long v6), .second, .val (.int v8), .val (.double (4503599627370496 : UInt64)), .second, .unset, .unset, .unset, .unset, .unset, .unset, .unset, .unset, .unset, .unset, .unset] [(.double (FP.l2d v6))])) _
        refine XS.dload X5.here hx rfl (hb hby at_71) rfl ?_
        refine XS.dmulS X5.here hx rfl (hb hby at_73) rfl (own_nn H0.1) rfl ?_
        refine XS.dstore X5.here hx rfl (hb hby at_74) rfl (l' := #[.val (.int p0), .val (.int p1), .val (.int p2), .val (.long v1), .second, .val (.long v6), .second, .val (.int v8), .val (.double (4503599627370496 : UInt64)), .second, .val (.double (FP.dmul (FP.l2d v6) (4503599627370496 : UInt64))), .second, .unset, .unset, .unset, .unset, .unset, .unset, .unset, .unset, .unset]) rfl ?_
        refine XS.lloadN X5.here hx rfl (hb hby at_76) rfl ?_
        show Steps p.tables e below (T5.setTop (mkF m 77 #[.val (.int p0), .val (.int p1), .val (.int p2), .val (.long v1), .second, .val (.long v6), .second, .val (.int v8), .val (.double (4503599627370496 : UInt64)), .second, .val (.double (FP.dmul (FP.l2d v6) (4503599627370496 : UInt64))), .second, .unset, .unset, .unset, .unset, .unset, .unset, .unset, .unset, .unset] [(.long v1)])) _
        refine XS.l2dS X5.here hx rfl (hb hby at_77) rfl rfl ?_
        refine XS.dload X5.here hx rfl (hb hby at_78) rfl ?_
        refine XS.dmulS X5.here hx rfl (hb hby at_80) rfl (own_nn H0.2.1) rfl ?_
        refine XS.dstore X5.here hx rfl (hb hby at_81) rfl (l' := #[.val (.int p0), .val (.int p1), .val (.int p2), .val (.long v1), .second, .val (.long v6), .second, .val (.int v8), .val (.double (4503599627370496 : UInt64)), .second, .val (.double (FP.dmul (FP.l2d v6) (4503599627370496 : UInt64))), .second, .val (.double (FP.dmul (FP.l2d v1) (4503599627370496 : UInt64))), .second, .unset, .unset, .unset, .unset, .unset, .unset, .unset]) rfl ?_
        show Steps p.tables e below (T5.setTop (mkF m 83 #[.val (.int p0), .val (.int p1), .val (.int p2), .val (.long v1), .second, .val (.long v6), .second, .val (.int v8), .val (.double (4503599627370496 : UInt64)), .second, .val (.double (FP.dmul (FP.l2d v6) (4503599627370496 : UInt64))), .second, .val (.double (FP.dmul (FP.l2d v1) (4503599627370496 : UInt64))), .second, .unset, .unset, .unset, .unset, .unset, .unset, .unset] [])) _
        refine XS.dload X5.here hx rfl (hb hby at_83) rfl ?_
        refine XS.dload X5.here hx rfl (hb hby at_85) rfl ?_
        refine st23 _ ?_
        show Steps p.tables e below (T23.setTop (mkF m 90 #[.val (.int p0), .val (.int p1), .val (.int p2), .val (.long v1), .second, .val (.long v6), .second, .val (.int v8), .val (.double (4503599627370496 : UInt64)), .second, .val (.double (FP.dmul (FP.l2d v6) (4503599627370496 : UInt64))), .second, .val (.double (FP.dmul (FP.l2d v1) (4503599627370496 : UInt64))), .second, .unset, .unset, .unset, .unset, .unset, .unset, .unset] [(.int (if (cmpValue (FP.dcmp (FP.dmul (FP.l2d v6) (4503599627370496 : UInt64)) (Own.least (FP.dmul (FP.l2d v1) (4503599627370496 : UInt64)))) .l) < (0 : Int32) then (0 : Int32) else (1 : Int32)))])) _
        rw [← ev24]
        show Steps p.tables e below (T23.setTop (mkF m 90 #[.val (.int p0), .val (.int p1), .val (.int p2), .val (.long v1), .second, .val (.long v6), .second, .val (.int v8), .val (.double (4503599627370496 : UInt64)), .second, .val (.double (FP.dmul (FP.l2d v6) (4503599627370496 : UInt64))), .second, .val (.double (FP.dmul (FP.l2d v1) (4503599627370496 : UInt64))), .second, .unset, .unset, .unset, .unset, .unset, .unset, .unset] [(.int v24)])) _
        refine XS.istore X23.here hx rfl (hb hby at_90) rfl (l' := #[.val (.int p0), .val (.int p1), .val (.int p2), .val (.long v1), .second, .val (.long v6), .second, .val (.int v8), .val (.double (4503599627370496 : UInt64)), .second, .val (.double (FP.dmul (FP.l2d v6) (4503599627370496 : UInt64))), .second, .val (.double (FP.dmul (FP.l2d v1) (4503599627370496 : UInt64))), .second, .val (.int v24), .unset, .unset, .unset, .unset, .unset, .unset]) rfl ?_
        show Steps p.tables e below (T23.setTop (mkF m 92 #[.val (.int p0), .val (.int p1), .val (.int p2), .val (.long v1), .second, .val (.long v6), .second, .val (.int v8), .val (.double (4503599627370496 : UInt64)), .second, .val (.double (FP.dmul (FP.l2d v6) (4503599627370496 : UInt64))), .second, .val (.double (FP.dmul (FP.l2d v1) (4503599627370496 : UInt64))), .second, .val (.int v24), .unset, .unset, .unset, .unset, .unset, .unset] [])) _
        refine XS.iload X23.here hx rfl (hb hby at_92) rfl ?_
        show Steps p.tables e below (T23.setTop (mkF m 94 #[.val (.int p0), .val (.int p1), .val (.int p2), .val (.long v1), .second, .val (.long v6), .second, .val (.int v8), .val (.double (4503599627370496 : UInt64)), .second, .val (.double (FP.dmul (FP.l2d v6) (4503599627370496 : UInt64))), .second, .val (.double (FP.dmul (FP.l2d v1) (4503599627370496 : UInt64))), .second, .val (.int v24), .unset, .unset, .unset, .unset, .unset, .unset] [(.int v8)])) _
        refine XS.ifNo X23.here hx rfl (hb hby at_94) rfl ((if0 _ _).trans (feq hd94_25).1) ?_
        refine XS.lconst X23.here hx rfl (hb hby at_97) ?_
        show Steps p.tables e below (T23.setTop (mkF m 98 #[.val (.int p0), .val (.int p1), .val (.int p2), .val (.long v1), .second, .val (.long v6), .second, .val (.int v8), .val (.double (4503599627370496 : UInt64)), .second, .val (.double (FP.dmul (FP.l2d v6) (4503599627370496 : UInt64))), .second, .val (.double (FP.dmul (FP.l2d v1) (4503599627370496 : UInt64))), .second, .val (.int v24), .unset, .unset, .unset, .unset, .unset, .unset] [(.long (1 : Int64))])) _
        refine XS.goto X23.here hx rfl (pc0 := 98) (pc' := 102) rfl (hb hby at_98) (by decide) (by decide) ?_
        refine XS.lstore X23.here hx rfl (hb hby at_102) rfl (l' := #[.val (.int p0), .val (.int p1), .val (.int p2), .val (.long v1), .second, .val (.long v6), .second, .val (.int v8), .val (.double (4503599627370496 : UInt64)), .second, .val (.double (FP.dmul (FP.l2d v6) (4503599627370496 : UInt64))), .second, .val (.double (FP.dmul (FP.l2d v1) (4503599627370496 : UInt64))), .second, .val (.int v24), .val (.long (1 : Int64)), .second, .unset, .unset, .unset, .unset]) rfl ?_
        refine XS.lload X23.here hx rfl (hb hby at_104) rfl ?_
        show Steps p.tables e below (T23.setTop (mkF m 106 #[.val (.int p0), .val (.int p1), .val (.int p2), .val (.long v1), .second, .val (.long v6), .second, .val (.int v8), .val (.double (4503599627370496 : UInt64)), .second, .val (.double (FP.dmul (FP.l2d v6) (4503599627370496 : UInt64))), .second, .val (.double (FP.dmul (FP.l2d v1) (4503599627370496 : UInt64))), .second, .val (.int v24), .val (.long (1 : Int64)), .second, .unset, .unset, .unset, .unset] [(.long v6)])) _
        refine XS.lloadN X23.here hx rfl (hb hby at_106) rfl ?_
        refine XS.lsub X23.here hx rfl (hb hby at_107) rfl ?_
        refine XS.lload X23.here hx rfl (hb hby at_108) rfl ?_
        refine XS.ladd X23.here hx rfl (hb hby at_110) rfl ?_
        show Steps p.tables e below (T23.setTop (mkF m 111 #[.val (.int p0), .val (.int p1), .val (.int p2), .val (.long v1), .second, .val (.long v6), .second, .val (.int v8), .val (.double (4503599627370496 : UInt64)), .second, .val (.double (FP.dmul (FP.l2d v6) (4503599627370496 : UInt64))), .second, .val (.double (FP.dmul (FP.l2d v1) (4503599627370496 : UInt64))), .second, .val (.int v24), .val (.long (1 : Int64)), .second, .unset, .unset, .unset, .unset] [(.long ((v6 - v1) + (1 : Int64)))])) _
        refine X23.ldc2Long hx hown (mvT hZ (hw _ (List.mem_of_getElem? (i := 15) rfl))) (g := (mkF m 111 #[.val (.int p0), .val (.int p1), .val (.int p2), .val (.long v1), .second, .val (.long v6), .second, .val (.int v8), .val (.double (4503599627370496 : UInt64)), .second, .val (.double (FP.dmul (FP.l2d v6) (4503599627370496 : UInt64))), .second, .val (.double (FP.dmul (FP.l2d v1) (4503599627370496 : UInt64))), .second, .val (.int v24), .val (.long (1 : Int64)), .second, .unset, .unset, .unset, .unset] [(.long ((v6 - v1) + (1 : Int64)))])) rfl (hb hby at_111) _ ?_
        refine XS.lmul X23.here hx rfl (hb hby at_114) rfl ?_
        refine XS.lloadN X23.here hx rfl (hb hby at_115) rfl ?_
        refine XS.ladd X23.here hx rfl (hb hby at_116) rfl ?_
        show Steps p.tables e below (T23.setTop (mkF m 117 #[.val (.int p0), .val (.int p1), .val (.int p2), .val (.long v1), .second, .val (.long v6), .second, .val (.int v8), .val (.double (4503599627370496 : UInt64)), .second, .val (.double (FP.dmul (FP.l2d v6) (4503599627370496 : UInt64))), .second, .val (.double (FP.dmul (FP.l2d v1) (4503599627370496 : UInt64))), .second, .val (.int v24), .val (.long (1 : Int64)), .second, .unset, .unset, .unset, .unset] [(.long ((((v6 - v1) + (1 : Int64)) * (1000000000 : Int64)) + v1))])) _
        rw [← ev26]
        show Steps p.tables e below (T23.setTop (mkF m 117 #[.val (.int p0), .val (.int p1), .val (.int p2), .val (.long v1), .second, .val (.long v6), .second, .val (.int v8), .val (.double (4503599627370496 : UInt64)), .second, .val (.double (FP.dmul (FP.l2d v6) (4503599627370496 : UInt64))), .second, .val (.double (FP.dmul (FP.l2d v1) (4503599627370496 : UInt64))), .second, .val (.int v24), .val (.long (1 : Int64)), .second, .unset, .unset, .unset, .unset] [(.long v26)])) _
        refine XS.lstore X23.here hx rfl (hb hby at_117) rfl (l' := #[.val (.int p0), .val (.int p1), .val (.int p2), .val (.long v1), .second, .val (.long v6), .second, .val (.int v8), .val (.double (4503599627370496 : UInt64)), .second, .val (.double (FP.dmul (FP.l2d v6) (4503599627370496 : UInt64))), .second, .val (.double (FP.dmul (FP.l2d v1) (4503599627370496 : UInt64))), .second, .val (.int v24), .val (.long (1 : Int64)), .second, .val (.long v26), .second, .unset, .unset]) rfl ?_
        refine XS.lloadN X23.here hx rfl (hb hby at_119) rfl ?_
        refine XS.bipush X23.here hx rfl (hb hby at_120) ?_
        refine XS.lshr X23.here hx rfl (hb hby at_122) rfl ?_
        show Steps p.tables e below (T23.setTop (mkF m 123 #[.val (.int p0), .val (.int p1), .val (.int p2), .val (.long v1), .second, .val (.long v6), .second, .val (.int v8), .val (.double (4503599627370496 : UInt64)), .second, .val (.double (FP.dmul (FP.l2d v6) (4503599627370496 : UInt64))), .second, .val (.double (FP.dmul (FP.l2d v1) (4503599627370496 : UInt64))), .second, .val (.int v24), .val (.long (1 : Int64)), .second, .val (.long v26), .second, .unset, .unset] [(.long (v1 >>> ((16 : Int32) &&& 0x3f).toInt64))])) _
        refine X23.ldc2Long hx hown (mvT hZ (hw _ (List.mem_of_getElem? (i := 16) rfl))) (g := (mkF m 123 #[.val (.int p0), .val (.int p1), .val (.int p2), .val (.long v1), .second, .val (.long v6), .second, .val (.int v8), .val (.double (4503599627370496 : UInt64)), .second, .val (.double (FP.dmul (FP.l2d v6) (4503599627370496 : UInt64))), .second, .val (.double (FP.dmul (FP.l2d v1) (4503599627370496 : UInt64))), .second, .val (.int v24), .val (.long (1 : Int64)), .second, .val (.long v26), .second, .unset, .unset] [(.long (v1 >>> ((16 : Int32) &&& 0x3f).toInt64))])) rfl (hb hby at_123) _ ?_
        refine XS.ladd X23.here hx rfl (hb hby at_126) rfl ?_
        show Steps p.tables e below (T23.setTop (mkF m 127 #[.val (.int p0), .val (.int p1), .val (.int p2), .val (.long v1), .second, .val (.long v6), .second, .val (.int v8), .val (.double (4503599627370496 : UInt64)), .second, .val (.double (FP.dmul (FP.l2d v6) (4503599627370496 : UInt64))), .second, .val (.double (FP.dmul (FP.l2d v1) (4503599627370496 : UInt64))), .second, .val (.int v24), .val (.long (1 : Int64)), .second, .val (.long v26), .second, .unset, .unset] [(.long ((v1 >>> ((16 : Int32) &&& 0x3f).toInt64) + (16 : Int64)))])) _
        rw [← ev27]
        show Steps p.tables e below (T23.setTop (mkF m 127 #[.val (.int p0), .val (.int p1), .val (.int p2), .val (.long v1), .second, .val (.long v6), .second, .val (.int v8), .val (.double (4503599627370496 : UInt64)), .second, .val (.double (FP.dmul (FP.l2d v6) (4503599627370496 : UInt64))), .second, .val (.double (FP.dmul (FP.l2d v1) (4503599627370496 : UInt64))), .second, .val (.int v24), .val (.long (1 : Int64)), .second, .val (.long v26), .second, .unset, .unset] [(.long v27)])) _
        refine XS.lstore X23.here hx rfl (hb hby at_127) rfl (l' := #[.val (.int p0), .val (.int p1), .val (.int p2), .val (.long v1), .second, .val (.long v6), .second, .val (.int v8), .val (.double (4503599627370496 : UInt64)), .second, .val (.double (FP.dmul (FP.l2d v6) (4503599627370496 : UInt64))), .second, .val (.double (FP.dmul (FP.l2d v1) (4503599627370496 : UInt64))), .second, .val (.int v24), .val (.long (1 : Int64)), .second, .val (.long v26), .second, .val (.long v27), .second]) rfl ?_
        refine XS.lload X23.here hx rfl (hb hby at_129) rfl ?_
        show Steps p.tables e below (T23.setTop (mkF m 131 #[.val (.int p0), .val (.int p1), .val (.int p2), .val (.long v1), .second, .val (.long v6), .second, .val (.int v8), .val (.double (4503599627370496 : UInt64)), .second, .val (.double (FP.dmul (FP.l2d v6) (4503599627370496 : UInt64))), .second, .val (.double (FP.dmul (FP.l2d v1) (4503599627370496 : UInt64))), .second, .val (.int v24), .val (.long (1 : Int64)), .second, .val (.long v26), .second, .val (.long v27), .second] [(.long v6)])) _
        refine XS.lloadN X23.here hx rfl (hb hby at_131) rfl ?_
        refine XS.lcmp X23.here hx rfl (hb hby at_132) rfl ?_
        exact kt
      refine Done.of ?_ K28
      by_cases hc133_29 : v6 < v1
      · have K : ∀ target, Steps p.tables e below (T23.setTop (mkF m 139 #[.val (.int p0), .val (.int p1), .val (.int p2), .val (.long v1), .second, .val (.long v6), .second, .val (.int v8), .val (.double (4503599627370496 : UInt64)), .second, .val (.double (FP.dmul (FP.l2d v6) (4503599627370496 : UInt64))), .second, .val (.double (FP.dmul (FP.l2d v1) (4503599627370496 : UInt64))), .second, .val (.int v24), .val (.long (1 : Int64)), .second, .val (.long v26), .second, .val (.long v27), .second] [])) target → Steps p.tables e below (T23.setTop (mkF m 133 #[.val (.int p0), .val (.int p1), .val (.int p2), .val (.long v1), .second, .val (.long v6), .second, .val (.int v8), .val (.double (4503599627370496 : UInt64)), .second, .val (.double (FP.dmul (FP.l2d v6) (4503599627370496 : UInt64))), .second, .val (.double (FP.dmul (FP.l2d v1) (4503599627370496 : UInt64))), .second, .val (.int v24), .val (.long (1 : Int64)), .second, .val (.long v26), .second, .val (.long v27), .second] [(.int (lcmpW v6 v1))])) target := by
          intro target kt
          refine XS.ifYes X23.here hx rfl (pc0 := 133) (pc' := 139) rfl (hb hby at_133) rfl ((if0 _ _).trans (tlt ((lw_lt v6 v1).mpr hc133_29)).1) (by decide) (by decide) ?_
          exact kt
        refine Done.of ?_ K
        have K30 : ∀ target, Steps p.tables e below (T23.setTop (mkF m 144 #[.val (.int p0), .val (.int p1), .val (.int p2), .val (.long v1), .second, .val (.long v6), .second, .val (.int v8), .val (.double (4503599627370496 : UInt64)), .second, .val (.double (FP.dmul (FP.l2d v6) (4503599627370496 : UInt64))), .second, .val (.double (FP.dmul (FP.l2d v1) (4503599627370496 : UInt64))), .second, .val (.int v24), .val (.long (1 : Int64)), .second, .val (.long v26), .second, .val (.long v27), .second] [(.int (lcmpW v26 v27))])) target → Steps p.tables e below (T23.setTop (mkF m 139 #[.val (.int p0), .val (.int p1), .val (.int p2), .val (.long v1), .second, .val (.long v6), .second, .val (.int v8), .val (.double (4503599627370496 : UInt64)), .second, .val (.double (FP.dmul (FP.l2d v6) (4503599627370496 : UInt64))), .second, .val (.double (FP.dmul (FP.l2d v1) (4503599627370496 : UInt64))), .second, .val (.int v24), .val (.long (1 : Int64)), .second, .val (.long v26), .second, .val (.long v27), .second] [])) target := by
          intro target kt
          refine XS.lload X23.here hx rfl (hb hby at_139) rfl ?_
          refine XS.lload X23.here hx rfl (hb hby at_141) rfl ?_
          show Steps p.tables e below (T23.setTop (mkF m 143 #[.val (.int p0), .val (.int p1), .val (.int p2), .val (.long v1), .second, .val (.long v6), .second, .val (.int v8), .val (.double (4503599627370496 : UInt64)), .second, .val (.double (FP.dmul (FP.l2d v6) (4503599627370496 : UInt64))), .second, .val (.double (FP.dmul (FP.l2d v1) (4503599627370496 : UInt64))), .second, .val (.int v24), .val (.long (1 : Int64)), .second, .val (.long v26), .second, .val (.long v27), .second] [(.long v27), (.long v26)])) _
          refine XS.lcmp X23.here hx rfl (hb hby at_143) rfl ?_
          exact kt
        refine Done.of ?_ K30
        by_cases hc144_31 : v26 < v27
        · have K : ∀ target, Steps p.tables e below (T23.setTop (mkF m 150 #[.val (.int p0), .val (.int p1), .val (.int p2), .val (.long v1), .second, .val (.long v6), .second, .val (.int v8), .val (.double (4503599627370496 : UInt64)), .second, .val (.double (FP.dmul (FP.l2d v6) (4503599627370496 : UInt64))), .second, .val (.double (FP.dmul (FP.l2d v1) (4503599627370496 : UInt64))), .second, .val (.int v24), .val (.long (1 : Int64)), .second, .val (.long v26), .second, .val (.long v27), .second] [])) target → Steps p.tables e below (T23.setTop (mkF m 144 #[.val (.int p0), .val (.int p1), .val (.int p2), .val (.long v1), .second, .val (.long v6), .second, .val (.int v8), .val (.double (4503599627370496 : UInt64)), .second, .val (.double (FP.dmul (FP.l2d v6) (4503599627370496 : UInt64))), .second, .val (.double (FP.dmul (FP.l2d v1) (4503599627370496 : UInt64))), .second, .val (.int v24), .val (.long (1 : Int64)), .second, .val (.long v26), .second, .val (.long v27), .second] [(.int (lcmpW v26 v27))])) target := by
            intro target kt
            refine XS.ifYes X23.here hx rfl (pc0 := 144) (pc' := 150) rfl (hb hby at_144) rfl ((if0 _ _).trans (tlt ((lw_lt v26 v27).mpr hc144_31)).1) (by decide) (by decide) ?_
            exact kt
          refine Done.of ?_ K
          have K32 : ∀ target, Steps p.tables e below (T23.setTop (mkF m 156 #[.val (.int p0), .val (.int p1), .val (.int p2), .val (.long v1), .second, .val (.long v6), .second, .val (.int v8), .val (.double (4503599627370496 : UInt64)), .second, .val (.double (FP.dmul (FP.l2d v6) (4503599627370496 : UInt64))), .second, .val (.double (FP.dmul (FP.l2d v1) (4503599627370496 : UInt64))), .second, .val (.int v24), .val (.long (1 : Int64)), .second, .val (.long v26), .second, .val (.long v27), .second] [(.int (lcmpW v26 (-v27)))])) target → Steps p.tables e below (T23.setTop (mkF m 150 #[.val (.int p0), .val (.int p1), .val (.int p2), .val (.long v1), .second, .val (.long v6), .second, .val (.int v8), .val (.double (4503599627370496 : UInt64)), .second, .val (.double (FP.dmul (FP.l2d v6) (4503599627370496 : UInt64))), .second, .val (.double (FP.dmul (FP.l2d v1) (4503599627370496 : UInt64))), .second, .val (.int v24), .val (.long (1 : Int64)), .second, .val (.long v26), .second, .val (.long v27), .second] [])) target := by
            intro target kt
            refine XS.lload X23.here hx rfl (hb hby at_150) rfl ?_
            refine XS.lload X23.here hx rfl (hb hby at_152) rfl ?_
            refine XS.lneg X23.here hx rfl (hb hby at_154) rfl ?_
            show Steps p.tables e below (T23.setTop (mkF m 155 #[.val (.int p0), .val (.int p1), .val (.int p2), .val (.long v1), .second, .val (.long v6), .second, .val (.int v8), .val (.double (4503599627370496 : UInt64)), .second, .val (.double (FP.dmul (FP.l2d v6) (4503599627370496 : UInt64))), .second, .val (.double (FP.dmul (FP.l2d v1) (4503599627370496 : UInt64))), .second, .val (.int v24), .val (.long (1 : Int64)), .second, .val (.long v26), .second, .val (.long v27), .second] [(.long (-v27)), (.long v26)])) _
            refine XS.lcmp X23.here hx rfl (hb hby at_155) rfl ?_
            exact kt
          refine Done.of ?_ K32
          by_cases hc156_33 : (-v27) < v26
          · have K : ∀ target, Steps p.tables e below (T23.setTop (mkF m 170 #[.val (.int p0), .val (.int p1), .val (.int p2), .val (.long v1), .second, .val (.long v6), .second, .val (.int v8), .val (.double (4503599627370496 : UInt64)), .second, .val (.double (FP.dmul (FP.l2d v6) (4503599627370496 : UInt64))), .second, .val (.double (FP.dmul (FP.l2d v1) (4503599627370496 : UInt64))), .second, .val (.int v24), .val (.long (1 : Int64)), .second, .val (.long v26), .second, .val (.long v27), .second] [])) target → Steps p.tables e below (T23.setTop (mkF m 156 #[.val (.int p0), .val (.int p1), .val (.int p2), .val (.long v1), .second, .val (.long v6), .second, .val (.int v8), .val (.double (4503599627370496 : UInt64)), .second, .val (.double (FP.dmul (FP.l2d v6) (4503599627370496 : UInt64))), .second, .val (.double (FP.dmul (FP.l2d v1) (4503599627370496 : UInt64))), .second, .val (.int v24), .val (.long (1 : Int64)), .second, .val (.long v26), .second, .val (.long v27), .second] [(.int (lcmpW v26 (-v27)))])) target := by
              intro target kt
              refine XS.ifYes X23.here hx rfl (pc0 := 156) (pc' := 170) rfl (hb hby at_156) rfl ((if0 _ _).trans (tlt ((lw_gt v26 (-v27)).mpr hc156_33)).2.2.1) (by decide) (by decide) ?_
              exact kt
            refine Done.of ?_ K
            obtain ⟨fs, hr, hrun, hended, hW, hsame⟩ := X23.leave (v := some (.int (1 : Int32))) (fun h => by rw [Bd.returns] at h; cases h)
            refine ⟨_, _, ?_, hrun, hended, _, _, rfl, ?_, ⟨_, rfl⟩, hW, hsame.mono (by decide) (by decide)⟩
            · refine XS.iconst X23.here hx rfl (hb hby at_170) ?_
              show Steps p.tables e below (T23.setTop (mkF m 171 #[.val (.int p0), .val (.int p1), .val (.int p2), .val (.long v1), .second, .val (.long v6), .second, .val (.int v8), .val (.double (4503599627370496 : UInt64)), .second, .val (.double (FP.dmul (FP.l2d v6) (4503599627370496 : UInt64))), .second, .val (.double (FP.dmul (FP.l2d v1) (4503599627370496 : UInt64))), .second, .val (.int v24), .val (.long (1 : Int64)), .second, .val (.long v26), .second, .val (.long v27), .second] [(.int (1 : Int32))])) _
              exact retN X23 hx (t := .boolean) Bd.returns (by simp) (hb hby at_171) hr
            · show Q0 Z p0 p1 p2  h0 n0 _ T23.heap _
              rw [e23]
              exact ⟨rfl, N23⟩
          · have K : ∀ target, Steps p.tables e below (T23.setTop (mkF m 159 #[.val (.int p0), .val (.int p1), .val (.int p2), .val (.long v1), .second, .val (.long v6), .second, .val (.int v8), .val (.double (4503599627370496 : UInt64)), .second, .val (.double (FP.dmul (FP.l2d v6) (4503599627370496 : UInt64))), .second, .val (.double (FP.dmul (FP.l2d v1) (4503599627370496 : UInt64))), .second, .val (.int v24), .val (.long (1 : Int64)), .second, .val (.long v26), .second, .val (.long v27), .second] [])) target → Steps p.tables e below (T23.setTop (mkF m 156 #[.val (.int p0), .val (.int p1), .val (.int p2), .val (.long v1), .second, .val (.long v6), .second, .val (.int v8), .val (.double (4503599627370496 : UInt64)), .second, .val (.double (FP.dmul (FP.l2d v6) (4503599627370496 : UInt64))), .second, .val (.double (FP.dmul (FP.l2d v1) (4503599627370496 : UInt64))), .second, .val (.int v24), .val (.long (1 : Int64)), .second, .val (.long v26), .second, .val (.long v27), .second] [(.int (lcmpW v26 (-v27)))])) target := by
              intro target kt
              refine XS.ifNo X23.here hx rfl (hb hby at_156) rfl ((if0 _ _).trans (flt (fun q => hc156_33 ((lw_gt v26 (-v27)).mp q))).2.2.1) ?_
              exact kt
            refine Done.of ?_ K
            have J161_34 : ∀ wj : Int32, wj = (if v24 = (0 : Int32) then (1 : Int32) else (0 : Int32)) → ∀ target, Steps p.tables e below (T23.setTop (mkF m 169 #[.val (.int p0), .val (.int p1), .val (.int p2), .val (.long v1), .second, .val (.long v6), .second, .val (.int v8), .val (.double (4503599627370496 : UInt64)), .second, .val (.double (FP.dmul (FP.l2d v6) (4503599627370496 : UInt64))), .second, .val (.double (FP.dmul (FP.l2d v1) (4503599627370496 : UInt64))), .second, .val (.int v24), .val (.long (1 : Int64)), .second, .val (.long v26), .second, .val (.long v27), .second] [(.int wj)])) target → Steps p.tables e below (T23.setTop (mkF m 161 #[.val (.int p0), .val (.int p1), .val (.int p2), .val (.long v1), .second, .val (.long v6), .second, .val (.int v8), .val (.double (4503599627370496 : UInt64)), .second, .val (.double (FP.dmul (FP.l2d v6) (4503599627370496 : UInt64))), .second, .val (.double (FP.dmul (FP.l2d v1) (4503599627370496 : UInt64))), .second, .val (.int v24), .val (.long (1 : Int64)), .second, .val (.long v26), .second, .val (.long v27), .second] [(.int v24)])) target := by
              intro wj hw0 target kt
              by_cases hj161 : v24 = (0 : Int32)
              · rw [if_pos hj161] at hw0
                show Steps p.tables e below (T23.setTop (mkF m 161 #[.val (.int p0), .val (.int p1), .val (.int p2), .val (.long v1), .second, .val (.long v6), .second, .val (.int v8), .val (.double (4503599627370496 : UInt64)), .second, .val (.double (FP.dmul (FP.l2d v6) (4503599627370496 : UInt64))), .second, .val (.double (FP.dmul (FP.l2d v1) (4503599627370496 : UInt64))), .second, .val (.int v24), .val (.long (1 : Int64)), .second, .val (.long v26), .second, .val (.long v27), .second] [(.int v24)])) _
                refine XS.ifNo X23.here hx rfl (hb hby at_161) rfl ((if0 _ _).trans (teq hj161).2) ?_
                refine XS.iconst X23.here hx rfl (hb hby at_164) ?_
                show Steps p.tables e below (T23.setTop (mkF m 165 #[.val (.int p0), .val (.int p1), .val (.int p2), .val (.long v1), .second, .val (.long v6), .second, .val (.int v8), .val (.double (4503599627370496 : UInt64)), .second, .val (.double (FP.dmul (FP.l2d v6) (4503599627370496 : UInt64))), .second, .val (.double (FP.dmul (FP.l2d v1) (4503599627370496 : UInt64))), .second, .val (.int v24), .val (.long (1 : Int64)), .second, .val (.long v26), .second, .val (.long v27), .second] [(.int (1 : Int32))])) _
                refine XS.goto X23.here hx rfl (pc0 := 165) (pc' := 169) rfl (hb hby at_165) (by decide) (by decide) ?_
                rw [hw0] at kt
                exact kt
              · rw [if_neg hj161] at hw0
                show Steps p.tables e below (T23.setTop (mkF m 161 #[.val (.int p0), .val (.int p1), .val (.int p2), .val (.long v1), .second, .val (.long v6), .second, .val (.int v8), .val (.double (4503599627370496 : UInt64)), .second, .val (.double (FP.dmul (FP.l2d v6) (4503599627370496 : UInt64))), .second, .val (.double (FP.dmul (FP.l2d v1) (4503599627370496 : UInt64))), .second, .val (.int v24), .val (.long (1 : Int64)), .second, .val (.long v26), .second, .val (.long v27), .second] [(.int v24)])) _
                refine XS.ifYes X23.here hx rfl (pc0 := 161) (pc' := 168) rfl (hb hby at_161) rfl ((if0 _ _).trans (feq hj161).2) (by decide) (by decide) ?_
                show Steps p.tables e below (T23.setTop (mkF m 168 #[.val (.int p0), .val (.int p1), .val (.int p2), .val (.long v1), .second, .val (.long v6), .second, .val (.int v8), .val (.double (4503599627370496 : UInt64)), .second, .val (.double (FP.dmul (FP.l2d v6) (4503599627370496 : UInt64))), .second, .val (.double (FP.dmul (FP.l2d v1) (4503599627370496 : UInt64))), .second, .val (.int v24), .val (.long (1 : Int64)), .second, .val (.long v26), .second, .val (.long v27), .second] [])) _
                refine XS.iconst X23.here hx rfl (hb hby at_168) ?_
                rw [hw0] at kt
                exact kt
            obtain ⟨fs, hr, hrun, hended, hW, hsame⟩ := X23.leave (v := some (.int (nar .boolean (if v24 = (0 : Int32) then (1 : Int32) else (0 : Int32))))) (fun h => by rw [Bd.returns] at h; cases h)
            refine ⟨_, _, ?_, hrun, hended, _, _, rfl, ?_, ⟨_, rfl⟩, hW, hsame.mono (by decide) (by decide)⟩
            · refine XS.iload X23.here hx rfl (hb hby at_159) rfl ?_
              show Steps p.tables e below (T23.setTop (mkF m 161 #[.val (.int p0), .val (.int p1), .val (.int p2), .val (.long v1), .second, .val (.long v6), .second, .val (.int v8), .val (.double (4503599627370496 : UInt64)), .second, .val (.double (FP.dmul (FP.l2d v6) (4503599627370496 : UInt64))), .second, .val (.double (FP.dmul (FP.l2d v1) (4503599627370496 : UInt64))), .second, .val (.int v24), .val (.long (1 : Int64)), .second, .val (.long v26), .second, .val (.long v27), .second] [(.int v24)])) _
              refine J161_34 _ rfl _ ?_
              show Steps p.tables e below (T23.setTop (mkF m 169 #[.val (.int p0), .val (.int p1), .val (.int p2), .val (.long v1), .second, .val (.long v6), .second, .val (.int v8), .val (.double (4503599627370496 : UInt64)), .second, .val (.double (FP.dmul (FP.l2d v6) (4503599627370496 : UInt64))), .second, .val (.double (FP.dmul (FP.l2d v1) (4503599627370496 : UInt64))), .second, .val (.int v24), .val (.long (1 : Int64)), .second, .val (.long v26), .second, .val (.long v27), .second] [(.int (if v24 = (0 : Int32) then (1 : Int32) else (0 : Int32)))])) _
              exact retN X23 hx (t := .boolean) Bd.returns (by simp) (hb hby at_169) hr
            · show Q0 Z p0 p1 p2  h0 n0 _ T23.heap _
              rw [e23]
              have hgot := ev24.trans (if_pos (HD.2.2.2.2.2.2.2 hc133_29 hc156_33))
              rw [hgot]
              exact ⟨rfl, N23⟩
        · have K : ∀ target, Steps p.tables e below (T23.setTop (mkF m 147 #[.val (.int p0), .val (.int p1), .val (.int p2), .val (.long v1), .second, .val (.long v6), .second, .val (.int v8), .val (.double (4503599627370496 : UInt64)), .second, .val (.double (FP.dmul (FP.l2d v6) (4503599627370496 : UInt64))), .second, .val (.double (FP.dmul (FP.l2d v1) (4503599627370496 : UInt64))), .second, .val (.int v24), .val (.long (1 : Int64)), .second, .val (.long v26), .second, .val (.long v27), .second] [])) target → Steps p.tables e below (T23.setTop (mkF m 144 #[.val (.int p0), .val (.int p1), .val (.int p2), .val (.long v1), .second, .val (.long v6), .second, .val (.int v8), .val (.double (4503599627370496 : UInt64)), .second, .val (.double (FP.dmul (FP.l2d v6) (4503599627370496 : UInt64))), .second, .val (.double (FP.dmul (FP.l2d v1) (4503599627370496 : UInt64))), .second, .val (.int v24), .val (.long (1 : Int64)), .second, .val (.long v26), .second, .val (.long v27), .second] [(.int (lcmpW v26 v27))])) target := by
            intro target kt
            refine XS.ifNo X23.here hx rfl (hb hby at_144) rfl ((if0 _ _).trans (flt (fun q => hc144_31 ((lw_lt v26 v27).mp q))).1) ?_
            exact kt
          refine Done.of ?_ K
          obtain ⟨fs, hr, hrun, hended, hW, hsame⟩ := X23.leave (v := some (.int (nar .boolean v24))) (fun h => by rw [Bd.returns] at h; cases h)
          refine ⟨_, _, ?_, hrun, hended, _, _, rfl, ?_, ⟨_, rfl⟩, hW, hsame.mono (by decide) (by decide)⟩
          · refine XS.iload X23.here hx rfl (hb hby at_147) rfl ?_
            show Steps p.tables e below (T23.setTop (mkF m 149 #[.val (.int p0), .val (.int p1), .val (.int p2), .val (.long v1), .second, .val (.long v6), .second, .val (.int v8), .val (.double (4503599627370496 : UInt64)), .second, .val (.double (FP.dmul (FP.l2d v6) (4503599627370496 : UInt64))), .second, .val (.double (FP.dmul (FP.l2d v1) (4503599627370496 : UInt64))), .second, .val (.int v24), .val (.long (1 : Int64)), .second, .val (.long v26), .second, .val (.long v27), .second] [(.int v24)])) _
            exact retN X23 hx (t := .boolean) Bd.returns (by simp) (hb hby at_149) hr
          · show Q0 Z p0 p1 p2  h0 n0 _ T23.heap _
            rw [e23]
            have hgot := ev24.trans (if_neg (HD.2.2.2.2.2.2.1 hc133_29 hc144_31))
            rw [hgot]
            exact ⟨rfl, N23⟩
      · have K : ∀ target, Steps p.tables e below (T23.setTop (mkF m 136 #[.val (.int p0), .val (.int p1), .val (.int p2), .val (.long v1), .second, .val (.long v6), .second, .val (.int v8), .val (.double (4503599627370496 : UInt64)), .second, .val (.double (FP.dmul (FP.l2d v6) (4503599627370496 : UInt64))), .second, .val (.double (FP.dmul (FP.l2d v1) (4503599627370496 : UInt64))), .second, .val (.int v24), .val (.long (1 : Int64)), .second, .val (.long v26), .second, .val (.long v27), .second] [])) target → Steps p.tables e below (T23.setTop (mkF m 133 #[.val (.int p0), .val (.int p1), .val (.int p2), .val (.long v1), .second, .val (.long v6), .second, .val (.int v8), .val (.double (4503599627370496 : UInt64)), .second, .val (.double (FP.dmul (FP.l2d v6) (4503599627370496 : UInt64))), .second, .val (.double (FP.dmul (FP.l2d v1) (4503599627370496 : UInt64))), .second, .val (.int v24), .val (.long (1 : Int64)), .second, .val (.long v26), .second, .val (.long v27), .second] [(.int (lcmpW v6 v1))])) target := by
          intro target kt
          refine XS.ifNo X23.here hx rfl (hb hby at_133) rfl ((if0 _ _).trans (flt (fun q => hc133_29 ((lw_lt v6 v1).mp q))).1) ?_
          exact kt
        refine Done.of ?_ K
        obtain ⟨fs, hr, hrun, hended, hW, hsame⟩ := X23.leave (v := some (.int (nar .boolean v24))) (fun h => by rw [Bd.returns] at h; cases h)
        refine ⟨_, _, ?_, hrun, hended, _, _, rfl, ?_, ⟨_, rfl⟩, hW, hsame.mono (by decide) (by decide)⟩
        · refine XS.iload X23.here hx rfl (hb hby at_136) rfl ?_
          show Steps p.tables e below (T23.setTop (mkF m 138 #[.val (.int p0), .val (.int p1), .val (.int p2), .val (.long v1), .second, .val (.long v6), .second, .val (.int v8), .val (.double (4503599627370496 : UInt64)), .second, .val (.double (FP.dmul (FP.l2d v6) (4503599627370496 : UInt64))), .second, .val (.double (FP.dmul (FP.l2d v1) (4503599627370496 : UInt64))), .second, .val (.int v24), .val (.long (1 : Int64)), .second, .val (.long v26), .second, .val (.long v27), .second] [(.int v24)])) _
          exact retN X23 hx (t := .boolean) Bd.returns (by simp) (hb hby at_138) hr
        · show Q0 Z p0 p1 p2  h0 n0 _ T23.heap _
          rw [e23]
          have hgot := ev24.trans (if_neg (HD.2.2.2.2.2.1 hc133_29))
          rw [hgot]
          exact ⟨rfl, N23⟩
  · have K : ∀ target, Steps p.tables e below (s₁.setTop (mkF m 13 #[.val (.int p0), .val (.int p1), .val (.int p2), .val (.long v1), .second, .unset, .unset, .unset, .unset, .unset, .unset, .unset, .unset, .unset, .unset, .unset, .unset, .unset, .unset, .unset, .unset] [])) target → Steps p.tables e below (s₁.setTop (mkF m 10 #[.val (.int p0), .val (.int p1), .val (.int p2), .val (.long v1), .second, .unset, .unset, .unset, .unset, .unset, .unset, .unset, .unset, .unset, .unset, .unset, .unset, .unset, .unset, .unset, .unset] [(.int (p2 &&& (1 : Int32)))])) target := by
      intro target kt
      refine XS.ifNo X0.here hx rfl (hb hby at_10) rfl ((if0 _ _).trans (feq hc10_3).1) ?_
      exact kt
    refine Done.of ?_ K
    have hnz17_35 : (8 : Int32) ≠ (0 : Int32) := by decide
    obtain ⟨v36, ev36⟩ : ∃ z : Int64, z = (v1 - ((p1 % (8 : Int32)).toInt64)) := ⟨_, rfl⟩
    obtain ⟨_, _, ⟨T37, L37, k37, n37⟩, -, X37, ⟨Lc37, hQ37, l37, y37, z37⟩, st37⟩ := Jvm.LawKit.callS X0 hx (y := (⟨"java/lang/Math", "max", "(JJ)J"⟩ : MethodName)) hown (mvT hZ (hw _ (List.mem_of_getElem? (i := 1) rfl))) (mvT hZ (hw _ (List.mem_of_getElem? (i := 2) rfl))) (mvT hZ (hw _ (List.mem_of_getElem? (i := 3) rfl))) (mvT hZ (hw _ (List.mem_of_getElem? (i := 4) rfl))) (by decide) (backOf (W := 0) (rm1 l Z a0 hw [] (0 : Int64) v36 h0 n0 Z0 ) hZ (hw _ (List.mem_of_getElem? (i := 4) rfl)) (hw _ (List.mem_of_getElem? (i := 3) rfl)) (by decide) (by decide)) (g := (mkF m 36 #[.val (.int p0), .val (.int p1), .val (.int p2), .val (.long v1), .second, .val (.long v36), .second, .unset, .unset, .unset, .unset, .unset, .unset, .unset, .unset, .unset, .unset, .unset, .unset, .unset, .unset] [(.long v36), (.long (0 : Int64))])) rfl (by rw [hml]; rfl) (argsL := [(.long (0 : Int64)), (.long v36)]) (rest := []) (lenOf pd_1 rfl) rfl (by show 2 * 0 + _ ≤ _; exact Nat.le_of_eq rfl) (hb hby at_36) (fun _ _ => ⟨rfl, e0, (by decide : 0 + 0 ≤ _), (by decide : 0 + 0 ≤ _)⟩)
    dsimp only [Pt.U, Pt.locs, Pt.cells, Pt.slots] at X37 l37 y37 z37 st37 hQ37
    rw [l37, y37, z37] at X37
    obtain ⟨rfl, N37q, e37⟩ := hQ37
    have N37 := Fr.app N0 N37q
    obtain ⟨v38, ev38⟩ : ∃ z : Int64, z = (own_X (0 : Int64) v36) := ⟨_, rfl⟩
    have J44_39 : ∀ wj : Int32, wj = (if (p2 &&& (2 : Int32)) = (0 : Int32) then (0 : Int32) else (1 : Int32)) → ∀ target, Steps p.tables e below (T37.setTop (mkF m 52 #[.val (.int p0), .val (.int p1), .val (.int p2), .val (.long v1), .second, .val (.long v38), .second, .unset, .unset, .unset, .unset, .unset, .unset, .unset, .unset, .unset, .unset, .unset, .unset, .unset, .unset] [(.int wj)])) target → Steps p.tables e below (T37.setTop (mkF m 44 #[.val (.int p0), .val (.int p1), .val (.int p2), .val (.long v1), .second, .val (.long v38), .second, .unset, .unset, .unset, .unset, .unset, .unset, .unset, .unset, .unset, .unset, .unset, .unset, .unset, .unset] [(.int (p2 &&& (2 : Int32)))])) target := by
      intro wj hw0 target kt
      by_cases hj44 : (p2 &&& (2 : Int32)) = (0 : Int32)
      · rw [if_pos hj44] at hw0
        show Steps p.tables e below (T37.setTop (mkF m 44 #[.val (.int p0), .val (.int p1), .val (.int p2), .val (.long v1), .second, .val (.long v38), .second, .unset, .unset, .unset, .unset, .unset, .unset, .unset, .unset, .unset, .unset, .unset, .unset, .unset, .unset] [(.int (p2 &&& (2 : Int32)))])) _
        refine XS.ifYes X37.here hx rfl (pc0 := 44) (pc' := 51) rfl (hb hby at_44) rfl ((if0 _ _).trans (teq hj44).1) (by decide) (by decide) ?_
        show Steps p.tables e below (T37.setTop (mkF m 51 #[.val (.int p0), .val (.int p1), .val (.int p2), .val (.long v1), .second, .val (.long v38), .second, .unset, .unset, .unset, .unset, .unset, .unset, .unset, .unset, .unset, .unset, .unset, .unset, .unset, .unset] [])) _
        refine XS.iconst X37.here hx rfl (hb hby at_51) ?_
        rw [hw0] at kt
        exact kt
      · rw [if_neg hj44] at hw0
        show Steps p.tables e below (T37.setTop (mkF m 44 #[.val (.int p0), .val (.int p1), .val (.int p2), .val (.long v1), .second, .val (.long v38), .second, .unset, .unset, .unset, .unset, .unset, .unset, .unset, .unset, .unset, .unset, .unset, .unset, .unset, .unset] [(.int (p2 &&& (2 : Int32)))])) _
        refine XS.ifNo X37.here hx rfl (hb hby at_44) rfl ((if0 _ _).trans (feq hj44).1) ?_
        show Steps p.tables e below (T37.setTop (mkF m 47 #[.val (.int p0), .val (.int p1), .val (.int p2), .val (.long v1), .second, .val (.long v38), .second, .unset, .unset, .unset, .unset, .unset, .unset, .unset, .unset, .unset, .unset, .unset, .unset, .unset, .unset] [])) _
        refine XS.iconst X37.here hx rfl (hb hby at_47) ?_
        show Steps p.tables e below (T37.setTop (mkF m 48 #[.val (.int p0), .val (.int p1), .val (.int p2), .val (.long v1), .second, .val (.long v38), .second, .unset, .unset, .unset, .unset, .unset, .unset, .unset, .unset, .unset, .unset, .unset, .unset, .unset, .unset] [(.int (1 : Int32))])) _
        refine XS.goto X37.here hx rfl (pc0 := 48) (pc' := 52) rfl (hb hby at_48) (by decide) (by decide) ?_
        rw [hw0] at kt
        exact kt
    obtain ⟨v40, ev40⟩ : ∃ z : Int32, z = (if (p2 &&& (2 : Int32)) = (0 : Int32) then (0 : Int32) else (1 : Int32)) := ⟨_, rfl⟩
    have K41 : ∀ target, Steps p.tables e below (T37.setTop (mkF m 56 #[.val (.int p0), .val (.int p1), .val (.int p2), .val (.long v1), .second, .val (.long v38), .second, .val (.int v40), .unset, .unset, .unset, .unset, .unset, .unset, .unset, .unset, .unset, .unset, .unset, .unset, .unset] [(.int v40)])) target → Steps p.tables e below (s₁.setTop (mkF m 13 #[.val (.int p0), .val (.int p1), .val (.int p2), .val (.long v1), .second, .unset, .unset, .unset, .unset, .unset, .unset, .unset, .unset, .unset, .unset, .unset, .unset, .unset, .unset, .unset, .unset] [])) target := by
      intro target kt
      show Steps p.tables e below (s₁.setTop (mkF m 13 #[.val (.int p0), .val (.int p1), .val (.int p2), .val (.long v1), .second, .unset, .unset, .unset, .unset, .unset, .unset, .unset, .unset, .unset, .unset, .unset, .unset, .unset, .unset, .unset, .unset] [])) _
      refine XS.lloadN X0.here hx rfl (hb hby at_13) rfl ?_
      show Steps p.tables e below (s₁.setTop (mkF m 14 #[.val (.int p0), .val (.int p1), .val (.int p2), .val (.long v1), .second, .unset, .unset, .unset, .unset, .unset, .unset, .unset, .unset, .unset, .unset, .unset, .unset, .unset, .unset, .unset, .unset] [(.long v1)])) _
      refine XS.iloadN X0.here hx rfl (hb hby at_14) rfl ?_
      show Steps p.tables e below (s₁.setTop (mkF m 15 #[.val (.int p0), .val (.int p1), .val (.int p2), .val (.long v1), .second, .unset, .unset, .unset, .unset, .unset, .unset, .unset, .unset, .unset, .unset, .unset, .unset, .unset, .unset, .unset, .unset] [(.int p1), (.long v1)])) _
      refine XS.bipush X0.here hx rfl (hb hby at_15) ?_
      show Steps p.tables e below (s₁.setTop (mkF m 17 #[.val (.int p0), .val (.int p1), .val (.int p2), .val (.long v1), .second, .unset, .unset, .unset, .unset, .unset, .unset, .unset, .unset, .unset, .unset, .unset, .unset, .unset, .unset, .unset, .unset] [(.int (8 : Int32)), (.int p1), (.long v1)])) _
      refine Jvm.RoadKit.iremM X0 hx rfl (hb hby at_17) rfl hnz17_35 ?_
      show Steps p.tables e below (s₁.setTop (mkF m 18 #[.val (.int p0), .val (.int p1), .val (.int p2), .val (.long v1), .second, .unset, .unset, .unset, .unset, .unset, .unset, .unset, .unset, .unset, .unset, .unset, .unset, .unset, .unset, .unset, .unset] [(.int (p1 % (8 : Int32))), (.long v1)])) _
      refine XS.i2l X0.here hx rfl (hb hby at_18) rfl ?_
      show Steps p.tables e below (s₁.setTop (mkF m 19 #[.val (.int p0), .val (.int p1), .val (.int p2), .val (.long v1), .second, .unset, .unset, .unset, .unset, .unset, .unset, .unset, .unset, .unset, .unset, .unset, .unset, .unset, .unset, .unset, .unset] [(.long ((p1 % (8 : Int32)).toInt64)), (.long v1)])) _
      refine XS.lsub X0.here hx rfl (hb hby at_19) rfl ?_
      show Steps p.tables e below (s₁.setTop (mkF m 20 #[.val (.int p0), .val (.int p1), .val (.int p2), .val (.long v1), .second, .unset, .unset, .unset, .unset, .unset, .unset, .unset, .unset, .unset, .unset, .unset, .unset, .unset, .unset, .unset, .unset] [(.long (v1 - ((p1 % (8 : Int32)).toInt64)))])) _
      rw [← ev36]
      show Steps p.tables e below (s₁.setTop (mkF m 20 #[.val (.int p0), .val (.int p1), .val (.int p2), .val (.long v1), .second, .unset, .unset, .unset, .unset, .unset, .unset, .unset, .unset, .unset, .unset, .unset, .unset, .unset, .unset, .unset, .unset] [(.long v36)])) _
      refine XS.lstore X0.here hx rfl (hb hby at_20) rfl (l' := #[.val (.int p0), .val (.int p1), .val (.int p2), .val (.long v1), .second, .val (.long v36), .second, .unset, .unset, .unset, .unset, .unset, .unset, .unset, .unset, .unset, .unset, .unset, .unset, .unset, .unset]) rfl ?_
      show Steps p.tables e below (s₁.setTop (mkF m 22 #[.val (.int p0), .val (.int p1), .val (.int p2), .val (.long v1), .second, .val (.long v36), .second, .unset, .unset, .unset, .unset, .unset, .unset, .unset, .unset, .unset, .unset, .unset, .unset, .unset, .unset] [])) _
      refine XS.goto X0.here hx rfl (pc0 := 22) (pc' := 33) rfl (hb hby at_22) (by decide) (by decide) ?_
      show Steps p.tables e below (s₁.setTop (mkF m 33 #[.val (.int p0), .val (.int p1), .val (.int p2), .val (.long v1), .second, .val (.long v36), .second, .unset, .unset, .unset, .unset, .unset, .unset, .unset, .unset, .unset, .unset, .unset, .unset, .unset, .unset] [])) _
      refine XS.lconst X0.here hx rfl (hb hby at_33) ?_
      show Steps p.tables e below (s₁.setTop (mkF m 34 #[.val (.int p0), .val (.int p1), .val (.int p2), .val (.long v1), .second, .val (.long v36), .second, .unset, .unset, .unset, .unset, .unset, .unset, .unset, .unset, .unset, .unset, .unset, .unset, .unset, .unset] [(.long (0 : Int64))])) _
      refine XS.lload X0.here hx rfl (hb hby at_34) rfl ?_
      show Steps p.tables e below (s₁.setTop (mkF m 36 #[.val (.int p0), .val (.int p1), .val (.int p2), .val (.long v1), .second, .val (.long v36), .second, .unset, .unset, .unset, .unset, .unset, .unset, .unset, .unset, .unset, .unset, .unset, .unset, .unset, .unset] [(.long v36), (.long (0 : Int64))])) _
      refine st37 _ ?_
      show Steps p.tables e below (T37.setTop (mkF m 39 #[.val (.int p0), .val (.int p1), .val (.int p2), .val (.long v1), .second, .val (.long v36), .second, .unset, .unset, .unset, .unset, .unset, .unset, .unset, .unset, .unset, .unset, .unset, .unset, .unset, .unset] [(.long (own_X (0 : Int64) v36))])) _
      rw [← ev38]
      show Steps p.tables e below (T37.setTop (mkF m 39 #[.val (.int p0), .val (.int p1), .val (.int p2), .val (.long v1), .second, .val (.long v36), .second, .unset, .unset, .unset, .unset, .unset, .unset, .unset, .unset, .unset, .unset, .unset, .unset, .unset, .unset] [(.long v38)])) _
      refine XS.lstore X37.here hx rfl (hb hby at_39) rfl (l' := #[.val (.int p0), .val (.int p1), .val (.int p2), .val (.long v1), .second, .val (.long v38), .second, .unset, .unset, .unset, .unset, .unset, .unset, .unset, .unset, .unset, .unset, .unset, .unset, .unset, .unset]) rfl ?_
      show Steps p.tables e below (T37.setTop (mkF m 41 #[.val (.int p0), .val (.int p1), .val (.int p2), .val (.long v1), .second, .val (.long v38), .second, .unset, .unset, .unset, .unset, .unset, .unset, .unset, .unset, .unset, .unset, .unset, .unset, .unset, .unset] [])) _
      refine XS.iloadN X37.here hx rfl (hb hby at_41) rfl ?_
      show Steps p.tables e below (T37.setTop (mkF m 42 #[.val (.int p0), .val (.int p1), .val (.int p2), .val (.long v1), .second, .val (.long v38), .second, .unset, .unset, .unset, .unset, .unset, .unset, .unset, .unset, .unset, .unset, .unset, .unset, .unset, .unset] [(.int p2)])) _
      refine XS.iconst X37.here hx rfl (hb hby at_42) ?_
      show Steps p.tables e below (T37.setTop (mkF m 43 #[.val (.int p0), .val (.int p1), .val (.int p2), .val (.long v1), .second, .val (.long v38), .second, .unset, .unset, .unset, .unset, .unset, .unset, .unset, .unset, .unset, .unset, .unset, .unset, .unset, .unset] [(.int (2 : Int32)), (.int p2)])) _
      refine XS.iand X37.here hx rfl (hb hby at_43) rfl ?_
      show Steps p.tables e below (T37.setTop (mkF m 44 #[.val (.int p0), .val (.int p1), .val (.int p2), .val (.long v1), .second, .val (.long v38), .second, .unset, .unset, .unset, .unset, .unset, .unset, .unset, .unset, .unset, .unset, .unset, .unset, .unset, .unset] [(.int (p2 &&& (2 : Int32)))])) _
      refine J44_39 _ rfl _ ?_
      show Steps p.tables e below (T37.setTop (mkF m 52 #[.val (.int p0), .val (.int p1), .val (.int p2), .val (.long v1), .second, .val (.long v38), .second, .unset, .unset, .unset, .unset, .unset, .unset, .unset, .unset, .unset, .unset, .unset, .unset, .unset, .unset] [(.int (if (p2 &&& (2 : Int32)) = (0 : Int32) then (0 : Int32) else (1 : Int32)))])) _
      rw [← ev40]
      show Steps p.tables e below (T37.setTop (mkF m 52 #[.val (.int p0), .val (.int p1), .val (.int p2), .val (.long v1), .second, .val (.long v38), .second, .unset, .unset, .unset, .unset, .unset, .unset, .unset, .unset, .unset, .unset, .unset, .unset, .unset, .unset] [(.int v40)])) _
      refine XS.istore X37.here hx rfl (hb hby at_52) rfl (l' := #[.val (.int p0), .val (.int p1), .val (.int p2), .val (.long v1), .second, .val (.long v38), .second, .val (.int v40), .unset, .unset, .unset, .unset, .unset, .unset, .unset, .unset, .unset, .unset, .unset, .unset, .unset]) rfl ?_
      show Steps p.tables e below (T37.setTop (mkF m 54 #[.val (.int p0), .val (.int p1), .val (.int p2), .val (.long v1), .second, .val (.long v38), .second, .val (.int v40), .unset, .unset, .unset, .unset, .unset, .unset, .unset, .unset, .unset, .unset, .unset, .unset, .unset] [])) _
      refine XS.iload X37.here hx rfl (hb hby at_54) rfl ?_
      exact kt
    refine Done.of ?_ K41
    by_cases hc56_42 : v40 = (0 : Int32)
    · have K : ∀ target, Steps p.tables e below (T37.setTop (mkF m 65 #[.val (.int p0), .val (.int p1), .val (.int p2), .val (.long v1), .second, .val (.long v38), .second, .val (.int v40), .unset, .unset, .unset, .unset, .unset, .unset, .unset, .unset, .unset, .unset, .unset, .unset, .unset] [])) target → Steps p.tables e below (T37.setTop (mkF m 56 #[.val (.int p0), .val (.int p1), .val (.int p2), .val (.long v1), .second, .val (.long v38), .second, .val (.int v40), .unset, .unset, .unset, .unset, .unset, .unset, .unset, .unset, .unset, .unset, .unset, .unset, .unset] [(.int v40)])) target := by
        intro target kt
        refine XS.ifYes X37.here hx rfl (pc0 := 56) (pc' := 65) rfl (hb hby at_56) rfl ((if0 _ _).trans (teq hc56_42).1) (by decide) (by decide) ?_
        exact kt
      refine Done.of ?_ K
      have HT := own_t ev1
      have HR := own_r1 HT ev36 ev38
      have HG := fun (d mg : Int64) (ed : d = ((((v38 - v1) + (0 : Int64)) * (1000000000 : Int64)) + v1)) (em : mg = ((v1 >>> ((16 : Int32) &&& 0x3f).toInt64) + (16 : Int64))) => own_two (fl := (0 : Int64)) (sc := (4607182418800017408 : UInt64)) HT HR (Or.inl ⟨rfl, rfl⟩) ed em
      have H0 := HG _ _ rfl rfl
      obtain ⟨_, _, ⟨T43, L43, k43, n43⟩, -, X43, ⟨Lc43, hQ43, l43, y43, z43⟩, st43⟩ := Jvm.LawKit.callS X37 hx (y := (⟨"com/example/lotwise/lotwise/Relaxation", "mayReach", "(DD)Z"⟩ : MethodName)) hown (mvT hZ (hw _ (List.mem_of_getElem? (i := 6) rfl))) (mvT hZ (hw _ (List.mem_of_getElem? (i := 7) rfl))) (mvT hZ (hw _ (List.mem_of_getElem? (i := 8) rfl))) (mvT hZ (hw _ (List.mem_of_getElem? (i := 9) rfl))) (by decide) (backOf (W := 0) (rm2 l Z a0 hw [] (FP.dmul (FP.l2d v38) (4607182418800017408 : UInt64)) (FP.dmul (FP.l2d v1) (4607182418800017408 : UInt64)) h0 n0 Z0 H0.2.2.1 H0.2.2.2.1 H0.2.2.2.2.1) hZ (hw _ (List.mem_of_getElem? (i := 9) rfl)) (hw _ (List.mem_of_getElem? (i := 8) rfl)) (by decide) (by decide)) (g := (mkF m 87 #[.val (.int p0), .val (.int p1), .val (.int p2), .val (.long v1), .second, .val (.long v38), .second, .val (.int v40), .val (.double (4607182418800017408 : UInt64)), .second, .val (.double (FP.dmul (FP.l2d v38) (4607182418800017408 : UInt64))), .second, .val (.double (FP.dmul (FP.l2d v1) (4607182418800017408 : UInt64))), .second, .unset, .unset, .unset, .unset, .unset, .unset, .unset] [(.double (FP.dmul (FP.l2d v1) (4607182418800017408 : UInt64))), (.double (FP.dmul (FP.l2d v38) (4607182418800017408 : UInt64)))])) rfl (by rw [hml]; rfl) (argsL := [(.double (FP.dmul (FP.l2d v38) (4607182418800017408 : UInt64))), (.double (FP.dmul (FP.l2d v1) (4607182418800017408 : UInt64)))]) (rest := []) (lenOf pd_2 rfl) rfl (by show 2 * 0 + _ ≤ _; exact Nat.le_of_eq rfl) (hb hby at_87) (fun _ _ => ⟨rfl, e37, (by decide : 0 + 0 ≤ _), (by decide : 0 + 0 ≤ _)⟩)
      dsimp only [Pt.U, Pt.locs, Pt.cells, Pt.slots] at X43 l43 y43 z43 st43 hQ43
      rw [l43, y43, z43] at X43
      obtain ⟨rfl, N43q, e43⟩ := hQ43
      have N43 := Fr.app N37 N43q
      obtain ⟨v44, ev44⟩ : ∃ z : Int32, z = (if (cmpValue (FP.dcmp (FP.dmul (FP.l2d v38) (4607182418800017408 : UInt64)) (Own.least (FP.dmul (FP.l2d v1) (4607182418800017408 : UInt64)))) .l) < (0 : Int32) then (0 : Int32) else (1 : Int32)) := ⟨_, rfl⟩
      have hd94_45 : v40 = (0 : Int32) := by exact hc56_42
      obtain ⟨v46, ev46⟩ : ∃ z : Int64, z = ((((v38 - v1) + (0 : Int64)) * (1000000000 : Int64)) + v1) := ⟨_, rfl⟩
      obtain ⟨v47, ev47⟩ : ∃ z : Int64, z = ((v1 >>> ((16 : Int32) &&& 0x3f).toInt64) + (16 : Int64)) := ⟨_, rfl⟩
      have HD := HG _ _ ev46 ev47
      have K48 : ∀ target, Steps p.tables e below (T43.setTop (mkF m 133 #[.val (.int p0), .val (.int p1), .val (.int p2), .val (.long v1), .second, .val (.long v38), .second, .val (.int v40), .val (.double (4607182418800017408 : UInt64)), .second, .val (.double (FP.dmul (FP.l2d v38) (4607182418800017408 : UInt64))), .second, .val (.double (FP.dmul (FP.l2d v1) (4607182418800017408 : UInt64))), .second, .val (.int v44), .val (.long (0 : Int64)), .second, .val (.long v46), .second, .val (.long v47), .second] [(.int (lcmpW v38 v1))])) target → Steps p.tables e below (T37.setTop (mkF m 65 #[.val (.int p0), .val (.int p1), .val (.int p2), .val (.long v1), .second, .val (.long v38), .second, .val (.int v40), .unset, .unset, .unset, .unset, .unset, .unset, .unset, .unset, .unset, .unset, .unset, .unset, .unset] [])) target := by
        intro target kt
        show Steps p.tables e below (T37.setTop (mkF m 65 #[.val (.int p0), .val (.int p1), .val (.int p2), .val (.long v1), .second, .val (.long v38), .second, .val (.int v40), .unset, .unset, .unset, .unset, .unset, .unset, .unset, .unset, .unset, .unset, .unset, .unset, .unset] [])) _
        refine XS.dconst1 X37.here hx rfl (hb hby at_65) rfl ?_
        show Steps p.tables e below (T37.setTop (mkF m 66 #[.val (.int p0), .val (.int p1), .val (.int p2), .val (.long v1), .second, .val (.long v38), .second, .val (.int v40), .unset, .unset, .unset, .unset, .unset, .unset, .unset, .unset, .unset, .unset, .unset, .unset, .unset] [(.double (4607182418800017408 : UInt64))])) _
        refine XS.dstore X37.here hx rfl (hb hby at_66) rfl (l' := #[.val (.int p0), .val (.int p1), .val (.int p2), .val (.long v1), .second, .val (.long v38), .second, .val (.int v40), .val (.double (4607182418800017408 : UInt64)), .second, .unset, .unset, .unset, .unset, .unset, .unset, .unset, .unset, .unset, .unset, .unset]) rfl ?_
        show Steps p.tables e below (T37.setTop (mkF m 68 #[.val (.int p0), .val (.int p1), .val (.int p2), .val (.long v1), .second, .val (.long v38), .second, .val (.int v40), .val (.double (4607182418800017408 : UInt64)), .second, .unset, .unset, .unset, .unset, .unset, .unset, .unset, .unset, .unset, .unset, .unset] [])) _
        refine XS.lload X37.here hx rfl (hb hby at_68) rfl ?_
        show Steps p.tables e below (T37.setTop (mkF m 70 #[.val (.int p0), .val (.int p1), .val (.int p2), .val (.long v1), .second, .val (.long v38), .second, .val (.int v40), .val (.double (4607182418800017408 : UInt64)), .second, .unset, .unset, .unset, .unset, .unset, .unset, .unset, .unset, .unset, .unset, .unset] [(.long v38)])) _
        refine XS.l2dS X37.here hx rfl (hb hby at_70) rfl rfl ?_
        show Steps p.tables e below (T37.setTop (mkF m 71 #[.val (.int p0), .val (.int p1), .val (.int p2), .val (.long v1), .second, .val (.long v38), .second, .val (.int v40), .val (.double (4607182418800017408 : UInt64)), .second, .unset, .unset, .unset, .unset, .unset, .unset, .unset, .unset, .unset, .unset, .unset] [(.double (FP.l2d v38))])) _
        refine XS.dload X37.here hx rfl (hb hby at_71) rfl ?_
        refine XS.dmulS X37.here hx rfl (hb hby at_73) rfl (own_nn H0.1) rfl ?_
        refine XS.dstore X37.here hx rfl (hb hby at_74) rfl (l' := #[.val (.int p0), .val (.int p1), .val (.int p2), .val (.long v1), .second, .val (.long v38), .second, .val (.int v40), .val (.double (4607182418800017408 : UInt64)), .second, .val (.double (FP.dmul (FP.l2d v38) (4607182418800017408 : UInt64))), .second, .unset, .unset, .unset, .unset, .unset, .unset, .unset, .unset, .unset]) rfl ?_
        show Steps p.tables e below (T37.setTop (mkF m 76 #[.val (.int p0), .val (.int p1), .val (.int p2), .val (.long v1), .second, .val (.long v38), .second, .val (.int v40), .val (.double (4607182418800017408 : UInt64)), .second, .val (.double (FP.dmul (FP.l2d v38) (4607182418800017408 : UInt64))), .second, .unset, .unset, .unset, .unset, .unset, .unset, .unset, .unset, .unset] [])) _
        refine XS.lloadN X37.here hx rfl (hb hby at_76) rfl ?_
        refine XS.l2dS X37.here hx rfl (hb hby at_77) rfl rfl ?_
        refine XS.dload X37.here hx rfl (hb hby at_78) rfl ?_
        refine XS.dmulS X37.here hx rfl (hb hby at_80) rfl (own_nn H0.2.1) rfl ?_
        show Steps p.tables e below (T37.setTop (mkF m 81 #[.val (.int p0), .val (.int p1), .val (.int p2), .val (.long v1), .second, .val (.long v38), .second, .val (.int v40), .val (.double (4607182418800017408 : UInt64)), .second, .val (.double (FP.dmul (FP.l2d v38) (4607182418800017408 : UInt64))), .second, .unset, .unset, .unset, .unset, .unset, .unset, .unset, .unset, .unset] [(.double (FP.dmul (FP.l2d v1) (4607182418800017408 : UInt64)))])) _
        refine XS.dstore X37.here hx rfl (hb hby at_81) rfl (l' := #[.val (.int p0), .val (.int p1), .val (.int p2), .val (.long v1), .second, .val (.long v38), .second, .val (.int v40), .val (.double (4607182418800017408 : UInt64)), .second, .val (.double (FP.dmul (FP.l2d v38) (4607182418800017408 : UInt64))), .second, .val (.double (FP.dmul (FP.l2d v1) (4607182418800017408 : UInt64))), .second, .unset, .unset, .unset, .unset, .unset, .unset, .unset]) rfl ?_
        refine XS.dload X37.here hx rfl (hb hby at_83) rfl ?_
        refine XS.dload X37.here hx rfl (hb hby at_85) rfl ?_
        refine st43 _ ?_
        show Steps p.tables e below (T43.setTop (mkF m 90 #[.val (.int p0), .val (.int p1), .val (.int p2), .val (.long v1), .second, .val (.long v38), .second, .val (.int v40), .val (.double (4607182418800017408 : UInt64)), .second, .val (.double (FP.dmul (FP.l2d v38) (4607182418800017408 : UInt64))), .second, .val (.double (FP.dmul (FP.l2d v1) (4607182418800017408 : UInt64))), .second, .unset, .unset, .unset, .unset, .unset, .unset, .unset] [(.int (if (cmpValue (FP.dcmp (FP.dmul (FP.l2d v38) (4607182418800017408 : UInt64)) (Own.least (FP.dmul (FP.l2d v1) (4607182418800017408 : UInt64)))) .l) < (0 : Int32) then (0 : Int32) else (1 : Int32)))])) _
        rw [← ev44]
        show Steps p.tables e below (T43.setTop (mkF m 90 #[.val (.int p0), .val (.int p1), .val (.int p2), .val (.long v1), .second, .val (.long v38), .second, .val (.int v40), .val (.double (4607182418800017408 : UInt64)), .second, .val (.double (FP.dmul (FP.l2d v38) (4607182418800017408 : UInt64))), .second, .val (.double (FP.dmul (FP.l2d v1) (4607182418800017408 : UInt64))), .second, .unset, .unset, .unset, .unset, .unset, .unset, .unset] [(.int v44)])) _
        refine XS.istore X43.here hx rfl (hb hby at_90) rfl (l' := #[.val (.int p0), .val (.int p1), .val (.int p2), .val (.long v1), .second, .val (.long v38), .second, .val (.int v40), .val (.double (4607182418800017408 : UInt64)), .second, .val (.double (FP.dmul (FP.l2d v38) (4607182418800017408 : UInt64))), .second, .val (.double (FP.dmul (FP.l2d v1) (4607182418800017408 : UInt64))), .second, .val (.int v44), .unset, .unset, .unset, .unset, .unset, .unset]) rfl ?_
        refine XS.iload X43.here hx rfl (hb hby at_92) rfl ?_
        show Steps p.tables e below (T43.setTop (mkF m 94 #[.val (.int p0), .val (.int p1), .val (.int p2), .val (.long v1), .second, .val (.long v38), .second, .val (.int v40), .val (.double (4607182418800017408 : UInt64)), .second, .val (.double (FP.dmul (FP.l2d v38) (4607182418800017408 : UInt64))), .second, .val (.double (FP.dmul (FP.l2d v1) (4607182418800017408 : UInt64))), .second, .val (.int v44), .unset, .unset, .unset, .unset, .unset, .unset] [(.int v40)])) _
        refine XS.ifYes X43.here hx rfl (pc0 := 94) (pc' := 101) rfl (hb hby at_94) rfl ((if0 _ _).trans (teq hd94_45).1) (by decide) (by decide) ?_
        refine XS.lconst X43.here hx rfl (hb hby at_101) ?_
        refine XS.lstore X43.here hx rfl (hb hby at_102) rfl (l' := #[.val (.int p0), .val (.int p1), .val (.int p2), .val (.long v1), .second, .val (.long v38), .second, .val (.int v40), .val (.double (4607182418800017408 : UInt64)), .second, .val (.double (FP.dmul (FP.l2d v38) (4607182418800017408 : UInt64))), .second, .val (.double (FP.dmul (FP.l2d v1) (4607182418800017408 : UInt64))), .second, .val (.int v44), .val (.long (0 : Int64)), .second, .unset, .unset, .unset, .unset]) rfl ?_
        show Steps p.tables e below (T43.setTop (mkF m 104 #[.val (.int p0), .val (.int p1), .val (.int p2), .val (.long v1), .second, .val (.long v38), .second, .val (.int v40), .val (.double (4607182418800017408 : UInt64)), .second, .val (.double (FP.dmul (FP.l2d v38) (4607182418800017408 : UInt64))), .second, .val (.double (FP.dmul (FP.l2d v1) (4607182418800017408 : UInt64))), .second, .val (.int v44), .val (.long (0 : Int64)), .second, .unset, .unset, .unset, .unset] [])) _
        refine XS.lload X43.here hx rfl (hb hby at_104) rfl ?_
        refine XS.lloadN X43.here hx rfl (hb hby at_106) rfl ?_
        refine XS.lsub X43.here hx rfl (hb hby at_107) rfl ?_
        refine XS.lload X43.here hx rfl (hb hby at_108) rfl ?_
        show Steps p.tables e below (T43.setTop (mkF m 110 #[.val (.int p0), .val (.int p1), .val (.int p2), .val (.long v1), .second, .val (.long v38), .second, .val (.int v40), .val (.double (4607182418800017408 : UInt64)), .second, .val (.double (FP.dmul (FP.l2d v38) (4607182418800017408 : UInt64))), .second, .val (.double (FP.dmul (FP.l2d v1) (4607182418800017408 : UInt64))), .second, .val (.int v44), .val (.long (0 : Int64)), .second, .unset, .unset, .unset, .unset] [(.long (0 : Int64)), (.long (v38 - v1))])) _
        refine XS.ladd X43.here hx rfl (hb hby at_110) rfl ?_
        refine X43.ldc2Long hx hown (mvT hZ (hw _ (List.mem_of_getElem? (i := 15) rfl))) (g := (mkF m 111 #[.val (.int p0), .val (.int p1), .val (.int p2), .val (.long v1), .second, .val (.long v38), .second, .val (.int v40), .val (.double (4607182418800017408 : UInt64)), .second, .val (.double (FP.dmul (FP.l2d v38) (4607182418800017408 : UInt64))), .second, .val (.double (FP.dmul (FP.l2d v1) (4607182418800017408 : UInt64))), .second, .val (.int v44), .val (.long (0 : Int64)), .second, .unset, .unset, .unset, .unset] [(.long ((v38 - v1) + (0 : Int64)))])) rfl (hb hby at_111) _ ?_
        refine XS.lmul X43.here hx rfl (hb hby at_114) rfl ?_
        refine XS.lloadN X43.here hx rfl (hb hby at_115) rfl ?_
        show Steps p.tables e below (T43.setTop (mkF m 116 #[.val (.int p0), .val (.int p1), .val (.int p2), .val (.long v1), .second, .val (.long v38), .second, .val (.int v40), .val (.double (4607182418800017408 : UInt64)), .second, .val (.double (FP.dmul (FP.l2d v38) (4607182418800017408 : UInt64))), .second, .val (.double (FP.dmul (FP.l2d v1) (4607182418800017408 : UInt64))), .second, .val (.int v44), .val (.long (0 : Int64)), .second, .unset, .unset, .unset, .unset] [(.long v1), (.long (((v38 - v1) + (0 : Int64)) * (1000000000 : Int64)))])) _
        refine XS.ladd X43.here hx rfl (hb hby at_116) rfl ?_
        show Steps p.tables e below (T43.setTop (mkF m 117 #[.val (.int p0), .val (.int p1), .val (.int p2), .val (.long v1), .second, .val (.long v38), .second, .val (.int v40), .val (.double (4607182418800017408 : UInt64)), .second, .val (.double (FP.dmul (FP.l2d v38) (4607182418800017408 : UInt64))), .second, .val (.double (FP.dmul (FP.l2d v1) (4607182418800017408 : UInt64))), .second, .val (.int v44), .val (.long (0 : Int64)), .second, .unset, .unset, .unset, .unset] [(.long ((((v38 - v1) + (0 : Int64)) * (1000000000 : Int64)) + v1))])) _
        rw [← ev46]
        show Steps p.tables e below (T43.setTop (mkF m 117 #[.val (.int p0), .val (.int p1), .val (.int p2), .val (.long v1), .second, .val (.long v38), .second, .val (.int v40), .val (.double (4607182418800017408 : UInt64)), .second, .val (.double (FP.dmul (FP.l2d v38) (4607182418800017408 : UInt64))), .second, .val (.double (FP.dmul (FP.l2d v1) (4607182418800017408 : UInt64))), .second, .val (.int v44), .val (.long (0 : Int64)), .second, .unset, .unset, .unset, .unset] [(.long v46)])) _
        refine XS.lstore X43.here hx rfl (hb hby at_117) rfl (l' := #[.val (.int p0), .val (.int p1), .val (.int p2), .val (.long v1), .second, .val (.long v38), .second, .val (.int v40), .val (.double (4607182418800017408 : UInt64)), .second, .val (.double (FP.dmul (FP.l2d v38) (4607182418800017408 : UInt64))), .second, .val (.double (FP.dmul (FP.l2d v1) (4607182418800017408 : UInt64))), .second, .val (.int v44), .val (.long (0 : Int64)), .second, .val (.long v46), .second, .unset, .unset]) rfl ?_
        refine XS.lloadN X43.here hx rfl (hb hby at_119) rfl ?_
        refine XS.bipush X43.here hx rfl (hb hby at_120) ?_
        show Steps p.tables e below (T43.setTop (mkF m 122 #[.val (.int p0), .val (.int p1), .val (.int p2), .val (.long v1), .second, .val (.long v38), .second, .val (.int v40), .val (.double (4607182418800017408 : UInt64)), .second, .val (.double (FP.dmul (FP.l2d v38) (4607182418800017408 : UInt64))), .second, .val (.double (FP.dmul (FP.l2d v1) (4607182418800017408 : UInt64))), .second, .val (.int v44), .val (.long (0 : Int64)), .second, .val (.long v46), .second, .unset, .unset] [(.int (16 : Int32)), (.long v1)])) _
        refine XS.lshr X43.here hx rfl (hb hby at_122) rfl ?_
        refine X43.ldc2Long hx hown (mvT hZ (hw _ (List.mem_of_getElem? (i := 16) rfl))) (g := (mkF m 123 #[.val (.int p0), .val (.int p1), .val (.int p2), .val (.long v1), .second, .val (.long v38), .second, .val (.int v40), .val (.double (4607182418800017408 : UInt64)), .second, .val (.double (FP.dmul (FP.l2d v38) (4607182418800017408 : UInt64))), .second, .val (.double (FP.dmul (FP.l2d v1) (4607182418800017408 : UInt64))), .second, .val (.int v44), .val (.long (0 : Int64)), .second, .val (.long v46), .second, .unset, .unset] [(.long (v1 >>> ((16 : Int32) &&& 0x3f).toInt64))])) rfl (hb hby at_123) _ ?_
        refine XS.ladd X43.here hx rfl (hb hby at_126) rfl ?_
        show Steps p.tables e below (T43.setTop (mkF m 127 #[.val (.int p0), .val (.int p1), .val (.int p2), .val (.long v1), .second, .val (.long v38), .second, .val (.int v40), .val (.double (4607182418800017408 : UInt64)), .second, .val (.double (FP.dmul (FP.l2d v38) (4607182418800017408 : UInt64))), .second, .val (.double (FP.dmul (FP.l2d v1) (4607182418800017408 : UInt64))), .second, .val (.int v44), .val (.long (0 : Int64)), .second, .val (.long v46), .second, .unset, .unset] [(.long ((v1 >>> ((16 : Int32) &&& 0x3f).toInt64) + (16 : Int64)))])) _
        rw [← ev47]
        show Steps p.tables e below (T43.setTop (mkF m 127 #[.val (.int p0), .val (.int p1), .val (.int p2), .val (.long v1), .second, .val (.long v38), .second, .val (.int v40), .val (.double (4607182418800017408 : UInt64)), .second, .val (.double (FP.dmul (FP.l2d v38) (4607182418800017408 : UInt64))), .second, .val (.double (FP.dmul (FP.l2d v1) (4607182418800017408 : UInt64))), .second, .val (.int v44), .val (.long (0 : Int64)), .second, .val (.long v46), .second, .unset, .unset] [(.long v47)])) _
        refine XS.lstore X43.here hx rfl (hb hby at_127) rfl (l' := #[.val (.int p0), .val (.int p1), .val (.int p2), .val (.long v1), .second, .val (.long v38), .second, .val (.int v40), .val (.double (4607182418800017408 : UInt64)), .second, .val (.double (FP.dmul (FP.l2d v38) (4607182418800017408 : UInt64))), .second, .val (.double (FP.dmul (FP.l2d v1) (4607182418800017408 : UInt64))), .second, .val (.int v44), .val (.long (0 : Int64)), .second, .val (.long v46), .second, .val (.long v47), .second]) rfl ?_
        show Steps p.tables e below (T43.setTop (mkF m 129 #[.val (.int p0), .val (.int p1), .val (.int p2), .val (.long v1), .second, .val (.long v38), .second, .val (.int v40), .val (.double (4607182418800017408 : UInt64)), .second, .val (.double (FP.dmul (FP.l2d v38) (4607182418800017408 : UInt64))), .second, .val (.double (FP.dmul (FP.l2d v1) (4607182418800017408 : UInt64))), .second, .val (.int v44), .val (.long (0 : Int64)), .second, .val (.long v46), .second, .val (.long v47), .second] [])) _
        refine XS.lload X43.here hx rfl (hb hby at_129) rfl ?_
        refine XS.lloadN X43.here hx rfl (hb hby at_131) rfl ?_
        refine XS.lcmp X43.here hx rfl (hb hby at_132) rfl ?_
        exact kt
      refine Done.of ?_ K48
      by_cases hc133_49 : v38 < v1
      · have K : ∀ target, Steps p.tables e below (T43.setTop (mkF m 139 #[.val (.int p0), .val (.int p1), .val (.int p2), .val (.long v1), .second, .val (.long v38), .second, .val (.int v40), .val (.double (4607182418800017408 : UInt64)), .second, .val (.double (FP.dmul (FP.l2d v38) (4607182418800017408 : UInt64))), .second, .val (.double (FP.dmul (FP.l2d v1) (4607182418800017408 : UInt64))), .second, .val (.int v44), .val (.long (0 : Int64)), .second, .val (.long v46), .second, .val (.long v47), .second] [])) target → Steps p.tables e below (T43.setTop (mkF m 133 #[.val (.int p0), .val (.int p1), .val (.int p2), .val (.long v1), .second, .val (.long v38), .second, .val (.int v40), .val (.double (4607182418800017408 : UInt64)), .second, .val (.double (FP.dmul (FP.l2d v38) (4607182418800017408 : UInt64))), .second, .val (.double (FP.dmul (FP.l2d v1) (4607182418800017408 : UInt64))), .second, .val (.int v44), .val (.long (0 : Int64)), .second, .val (.long v46), .second, .val (.long v47), .second] [(.int (lcmpW v38 v1))])) target := by
          intro target kt
          refine XS.ifYes X43.here hx rfl (pc0 := 133) (pc' := 139) rfl (hb hby at_133) rfl ((if0 _ _).trans (tlt ((lw_lt v38 v1).mpr hc133_49)).1) (by decide) (by decide) ?_
          exact kt
        refine Done.of ?_ K
        have K50 : ∀ target, Steps p.tables e below (T43.setTop (mkF m 144 #[.val (.int p0), .val (.int p1), .val (.int p2), .val (.long v1), .second, .val (.long v38), .second, .val (.int v40), .val (.double (4607182418800017408 : UInt64)), .second, .val (.double (FP.dmul (FP.l2d v38) (4607182418800017408 : UInt64))), .second, .val (.double (FP.dmul (FP.l2d v1) (4607182418800017408 : UInt64))), .second, .val (.int v44), .val (.long (0 : Int64)), .second, .val (.long v46), .second, .val (.long v47), .second] [(.int (lcmpW v46 v47))])) target → Steps p.tables e below (T43.setTop (mkF m 139 #[.val (.int p0), .val (.int p1), .val (.int p2), .val (.long v1), .second, .val (.long v38), .second, .val (.int v40), .val (.double (4607182418800017408 : UInt64)), .second, .val (.double (FP.dmul (FP.l2d v38) (4607182418800017408 : UInt64))), .second, .val (.double (FP.dmul (FP.l2d v1) (4607182418800017408 : UInt64))), .second, .val (.int v44), .val (.long (0 : Int64)), .second, .val (.long v46), .second, .val (.long v47), .second] [])) target := by
          intro target kt
          refine XS.lload X43.here hx rfl (hb hby at_139) rfl ?_
          show Steps p.tables e below (T43.setTop (mkF m 141 #[.val (.int p0), .val (.int p1), .val (.int p2), .val (.long v1), .second, .val (.long v38), .second, .val (.int v40), .val (.double (4607182418800017408 : UInt64)), .second, .val (.double (FP.dmul (FP.l2d v38) (4607182418800017408 : UInt64))), .second, .val (.double (FP.dmul (FP.l2d v1) (4607182418800017408 : UInt64))), .second, .val (.int v44), .val (.long (0 : Int64)), .second, .val (.long v46), .second, .val (.long v47), .second] [(.long v46)])) _
          refine XS.lload X43.here hx rfl (hb hby at_141) rfl ?_
          refine XS.lcmp X43.here hx rfl (hb hby at_143) rfl ?_
          exact kt
        refine Done.of ?_ K50
        by_cases hc144_51 : v46 < v47
        · have K : ∀ target, Steps p.tables e below (T43.setTop (mkF m 150 #[.val (.int p0), .val (.int p1), .val (.int p2), .val (.long v1), .second, .val (.long v38), .second, .val (.int v40), .val (.double (4607182418800017408 : UInt64)), .second, .val (.double (FP.dmul (FP.l2d v38) (4607182418800017408 : UInt64))), .second, .val (.double (FP.dmul (FP.l2d v1) (4607182418800017408 : UInt64))), .second, .val (.int v44), .val (.long (0 : Int64)), .second, .val (.long v46), .second, .val (.long v47), .second] [])) target → Steps p.tables e below (T43.setTop (mkF m 144 #[.val (.int p0), .val (.int p1), .val (.int p2), .val (.long v1), .second, .val (.long v38), .second, .val (.int v40), .val (.double (4607182418800017408 : UInt64)), .second, .val (.double (FP.dmul (FP.l2d v38) (4607182418800017408 : UInt64))), .second, .val (.double (FP.dmul (FP.l2d v1) (4607182418800017408 : UInt64))), .second, .val (.int v44), .val (.long (0 : Int64)), .second, .val (.long v46), .second, .val (.long v47), .second] [(.int (lcmpW v46 v47))])) target := by
            intro target kt
            refine XS.ifYes X43.here hx rfl (pc0 := 144) (pc' := 150) rfl (hb hby at_144) rfl ((if0 _ _).trans (tlt ((lw_lt v46 v47).mpr hc144_51)).1) (by decide) (by decide) ?_
            exact kt
          refine Done.of ?_ K
          have K52 : ∀ target, Steps p.tables e below (T43.setTop (mkF m 156 #[.val (.int p0), .val (.int p1), .val (.int p2), .val (.long v1), .second, .val (.long v38), .second, .val (.int v40), .val (.double (4607182418800017408 : UInt64)), .second, .val (.double (FP.dmul (FP.l2d v38) (4607182418800017408 : UInt64))), .second, .val (.double (FP.dmul (FP.l2d v1) (4607182418800017408 : UInt64))), .second, .val (.int v44), .val (.long (0 : Int64)), .second, .val (.long v46), .second, .val (.long v47), .second] [(.int (lcmpW v46 (-v47)))])) target → Steps p.tables e below (T43.setTop (mkF m 150 #[.val (.int p0), .val (.int p1), .val (.int p2), .val (.long v1), .second, .val (.long v38), .second, .val (.int v40), .val (.double (4607182418800017408 : UInt64)), .second, .val (.double (FP.dmul (FP.l2d v38) (4607182418800017408 : UInt64))), .second, .val (.double (FP.dmul (FP.l2d v1) (4607182418800017408 : UInt64))), .second, .val (.int v44), .val (.long (0 : Int64)), .second, .val (.long v46), .second, .val (.long v47), .second] [])) target := by
            intro target kt
            refine XS.lload X43.here hx rfl (hb hby at_150) rfl ?_
            refine XS.lload X43.here hx rfl (hb hby at_152) rfl ?_
            show Steps p.tables e below (T43.setTop (mkF m 154 #[.val (.int p0), .val (.int p1), .val (.int p2), .val (.long v1), .second, .val (.long v38), .second, .val (.int v40), .val (.double (4607182418800017408 : UInt64)), .second, .val (.double (FP.dmul (FP.l2d v38) (4607182418800017408 : UInt64))), .second, .val (.double (FP.dmul (FP.l2d v1) (4607182418800017408 : UInt64))), .second, .val (.int v44), .val (.long (0 : Int64)), .second, .val (.long v46), .second, .val (.long v47), .second] [(.long v47), (.long v46)])) _
            refine XS.lneg X43.here hx rfl (hb hby at_154) rfl ?_
            refine XS.lcmp X43.here hx rfl (hb hby at_155) rfl ?_
            exact kt
          refine Done.of ?_ K52
          by_cases hc156_53 : (-v47) < v46
          · have K : ∀ target, Steps p.tables e below (T43.setTop (mkF m 170 #[.val (.int p0), .val (.int p1), .val (.int p2), .val (.long v1), .second, .val (.long v38), .second, .val (.int v40), .val (.double (4607182418800017408 : UInt64)), .second, .val (.double (FP.dmul (FP.l2d v38) (4607182418800017408 : UInt64))), .second, .val (.double (FP.dmul (FP.l2d v1) (4607182418800017408 : UInt64))), .second, .val (.int v44), .val (.long (0 : Int64)), .second, .val (.long v46), .second, .val (.long v47), .second] [])) target → Steps p.tables e below (T43.setTop (mkF m 156 #[.val (.int p0), .val (.int p1), .val (.int p2), .val (.long v1), .second, .val (.long v38), .second, .val (.int v40), .val (.double (4607182418800017408 : UInt64)), .second, .val (.double (FP.dmul (FP.l2d v38) (4607182418800017408 : UInt64))), .second, .val (.double (FP.dmul (FP.l2d v1) (4607182418800017408 : UInt64))), .second, .val (.int v44), .val (.long (0 : Int64)), .second, .val (.long v46), .second, .val (.long v47), .second] [(.int (lcmpW v46 (-v47)))])) target := by
              intro target kt
              refine XS.ifYes X43.here hx rfl (pc0 := 156) (pc' := 170) rfl (hb hby at_156) rfl ((if0 _ _).trans (tlt ((lw_gt v46 (-v47)).mpr hc156_53)).2.2.1) (by decide) (by decide) ?_
              exact kt
            refine Done.of ?_ K
            obtain ⟨fs, hr, hrun, hended, hW, hsame⟩ := X43.leave (v := some (.int (1 : Int32))) (fun h => by rw [Bd.returns] at h; cases h)
            refine ⟨_, _, ?_, hrun, hended, _, _, rfl, ?_, ⟨_, rfl⟩, hW, hsame.mono (by decide) (by decide)⟩
            · refine XS.iconst X43.here hx rfl (hb hby at_170) ?_
              show Steps p.tables e below (T43.setTop (mkF m 171 #[.val (.int p0), .val (.int p1), .val (.int p2), .val (.long v1), .second, .val (.long v38), .second, .val (.int v40), .val (.double (4607182418800017408 : UInt64)), .second, .val (.double (FP.dmul (FP.l2d v38) (4607182418800017408 : UInt64))), .second, .val (.double (FP.dmul (FP.l2d v1) (4607182418800017408 : UInt64))), .second, .val (.int v44), .val (.long (0 : Int64)), .second, .val (.long v46), .second, .val (.long v47), .second] [(.int (1 : Int32))])) _
              exact retN X43 hx (t := .boolean) Bd.returns (by simp) (hb hby at_171) hr
            · show Q0 Z p0 p1 p2  h0 n0 _ T43.heap _
              rw [e43]
              exact ⟨rfl, N43⟩
          · have K : ∀ target, Steps p.tables e below (T43.setTop (mkF m 159 #[.val (.int p0), .val (.int p1), .val (.int p2), .val (.long v1), .second, .val (.long v38), .second, .val (.int v40), .val (.double (4607182418800017408 : UInt64)), .second, .val (.double (FP.dmul (FP.l2d v38) (4607182418800017408 : UInt64))), .second, .val (.double (FP.dmul (FP.l2d v1) (4607182418800017408 : UInt64))), .second, .val (.int v44), .val (.long (0 : Int64)), .second, .val (.long v46), .second, .val (.long v47), .second] [])) target → Steps p.tables e below (T43.setTop (mkF m 156 #[.val (.int p0), .val (.int p1), .val (.int p2), .val (.long v1), .second, .val (.long v38), .second, .val (.int v40), .val (.double (4607182418800017408 : UInt64)), .second, .val (.double (FP.dmul (FP.l2d v38) (4607182418800017408 : UInt64))), .second, .val (.double (FP.dmul (FP.l2d v1) (4607182418800017408 : UInt64))), .second, .val (.int v44), .val (.long (0 : Int64)), .second, .val (.long v46), .second, .val (.long v47), .second] [(.int (lcmpW v46 (-v47)))])) target := by
              intro target kt
              refine XS.ifNo X43.here hx rfl (hb hby at_156) rfl ((if0 _ _).trans (flt (fun q => hc156_53 ((lw_gt v46 (-v47)).mp q))).2.2.1) ?_
              exact kt
            refine Done.of ?_ K
            have J161_54 : ∀ wj : Int32, wj = (if v44 = (0 : Int32) then (1 : Int32) else (0 : Int32)) → ∀ target, Steps p.tables e below (T43.setTop (mkF m 169 #[.val (.int p0), .val (.int p1), .val (.int p2), .val (.long v1), .second, .val (.long v38), .second, .val (.int v40), .val (.double (4607182418800017408 : UInt64)), .second, .val (.double (FP.dmul (FP.l2d v38) (4607182418800017408 : UInt64))), .second, .val (.double (FP.dmul (FP.l2d v1) (4607182418800017408 : UInt64))), .second, .val (.int v44), .val (.long (0 : Int64)), .second, .val (.long v46), .second, .val (.long v47), .second] [(.int wj)])) target → Steps p.tables e below (T43.setTop (mkF m 161 #[.val (.int p0), .val (.int p1), .val (.int p2), .val (.long v1), .second, .val (.long v38), .second, .val (.int v40), .val (.double (4607182418800017408 : UInt64)), .second, .val (.double (FP.dmul (FP.l2d v38) (4607182418800017408 : UInt64))), .second, .val (.double (FP.dmul (FP.l2d v1) (4607182418800017408 : UInt64))), .second, .val (.int v44), .val (.long (0 : Int64)), .second, .val (.long v46), .second, .val (.long v47), .second] [(.int v44)])) target := by
              intro wj hw0 target kt
              by_cases hj161 : v44 = (0 : Int32)
              · rw [if_pos hj161] at hw0
                show Steps p.tables e below (T43.setTop (mkF m 161 #[.val (.int p0), .val (.int p1), .val (.int p2), .val (.long v1), .second, .val (.long v38), .second, .val (.int v40), .val (.double (4607182418800017408 : UInt64)), .second, .val (.double (FP.dmul (FP.l2d v38) (4607182418800017408 : UInt64))), .second, .val (.double (FP.dmul (FP.l2d v1) (4607182418800017408 : UInt64))), .second, .val (.int v44), .val (.long (0 : Int64)), .second, .val (.long v46), .second, .val (.long v47), .second] [(.int v44)])) _
                refine XS.ifNo X43.here hx rfl (hb hby at_161) rfl ((if0 _ _).trans (teq hj161).2) ?_
                show Steps p.tables e below (T43.setTop (mkF m 164 #[.val (.int p0), .val (.int p1), .val (.int p2), .val (.long v1), .second, .val (.long v38), .second, .val (.int v40), .val (.double (4607182418800017408 : UInt64)), .second, .val (.double (FP.dmul (FP.l2d v38) (4607182418800017408 : UInt64))), .second, .val (.double (FP.dmul (FP.l2d v1) (4607182418800017408 : UInt64))), .second, .val (.int v44), .val (.long (0 : Int64)), .second, .val (.long v46), .second, .val (.long v47), .second] [])) _
                refine XS.iconst X43.here hx rfl (hb hby at_164) ?_
                show Steps p.tables e below (T43.setTop (mkF m 165 #[.val (.int p0), .val (.int p1), .val (.int p2), .val (.long v1), .second, .val (.long v38), .second, .val (.int v40), .val (.double (4607182418800017408 : UInt64)), .second, .val (.double (FP.dmul (FP.l2d v38) (4607182418800017408 : UInt64))), .second, .val (.double (FP.dmul (FP.l2d v1) (4607182418800017408 : UInt64))), .second, .val (.int v44), .val (.long (0 : Int64)), .second, .val (.long v46), .second, .val (.long v47), .second] [(.int (1 : Int32))])) _
                refine XS.goto X43.here hx rfl (pc0 := 165) (pc' := 169) rfl (hb hby at_165) (by decide) (by decide) ?_
                rw [hw0] at kt
                exact kt
              · rw [if_neg hj161] at hw0
                show Steps p.tables e below (T43.setTop (mkF m 161 #[.val (.int p0), .val (.int p1), .val (.int p2), .val (.long v1), .second, .val (.long v38), .second, .val (.int v40), .val (.double (4607182418800017408 : UInt64)), .second, .val (.double (FP.dmul (FP.l2d v38) (4607182418800017408 : UInt64))), .second, .val (.double (FP.dmul (FP.l2d v1) (4607182418800017408 : UInt64))), .second, .val (.int v44), .val (.long (0 : Int64)), .second, .val (.long v46), .second, .val (.long v47), .second] [(.int v44)])) _
                refine XS.ifYes X43.here hx rfl (pc0 := 161) (pc' := 168) rfl (hb hby at_161) rfl ((if0 _ _).trans (feq hj161).2) (by decide) (by decide) ?_
                refine XS.iconst X43.here hx rfl (hb hby at_168) ?_
                rw [hw0] at kt
                exact kt
            obtain ⟨fs, hr, hrun, hended, hW, hsame⟩ := X43.leave (v := some (.int (nar .boolean (if v44 = (0 : Int32) then (1 : Int32) else (0 : Int32))))) (fun h => by rw [Bd.returns] at h; cases h)
            refine ⟨_, _, ?_, hrun, hended, _, _, rfl, ?_, ⟨_, rfl⟩, hW, hsame.mono (by decide) (by decide)⟩
            · refine XS.iload X43.here hx rfl (hb hby at_159) rfl ?_
              show Steps p.tables e below (T43.setTop (mkF m 161 #[.val (.int p0), .val (.int p1), .val (.int p2), .val (.long v1), .second, .val (.long v38), .second, .val (.int v40), .val (.double (4607182418800017408 : UInt64)), .second, .val (.double (FP.dmul (FP.l2d v38) (4607182418800017408 : UInt64))), .second, .val (.double (FP.dmul (FP.l2d v1) (4607182418800017408 : UInt64))), .second, .val (.int v44), .val (.long (0 : Int64)), .second, .val (.long v46), .second, .val (.long v47), .second] [(.int v44)])) _
              refine J161_54 _ rfl _ ?_
              show Steps p.tables e below (T43.setTop (mkF m 169 #[.val (.int p0), .val (.int p1), .val (.int p2), .val (.long v1), .second, .val (.long v38), .second, .val (.int v40), .val (.double (4607182418800017408 : UInt64)), .second, .val (.double (FP.dmul (FP.l2d v38) (4607182418800017408 : UInt64))), .second, .val (.double (FP.dmul (FP.l2d v1) (4607182418800017408 : UInt64))), .second, .val (.int v44), .val (.long (0 : Int64)), .second, .val (.long v46), .second, .val (.long v47), .second] [(.int (if v44 = (0 : Int32) then (1 : Int32) else (0 : Int32)))])) _
              exact retN X43 hx (t := .boolean) Bd.returns (by simp) (hb hby at_169) hr
            · show Q0 Z p0 p1 p2  h0 n0 _ T43.heap _
              rw [e43]
              have hgot := ev44.trans (if_pos (HD.2.2.2.2.2.2.2 hc133_49 hc156_53))
              rw [hgot]
              exact ⟨rfl, N43⟩
        · have K : ∀ target, Steps p.tables e below (T43.setTop (mkF m 147 #[.val (.int p0), .val (.int p1), .val (.int p2), .val (.long v1), .second, .val (.long v38), .second, .val (.int v40), .val (.double (4607182418800017408 : UInt64)), .second, .val (.double (FP.dmul (FP.l2d v38) (4607182418800017408 : UInt64))), .second, .val (.double (FP.dmul (FP.l2d v1) (4607182418800017408 : UInt64))), .second, .val (.int v44), .val (.long (0 : Int64)), .second, .val (.long v46), .second, .val (.long v47), .second] [])) target → Steps p.tables e below (T43.setTop (mkF m 144 #[.val (.int p0), .val (.int p1), .val (.int p2), .val (.long v1), .second, .val (.long v38), .second, .val (.int v40), .val (.double (4607182418800017408 : UInt64)), .second, .val (.double (FP.dmul (FP.l2d v38) (4607182418800017408 : UInt64))), .second, .val (.double (FP.dmul (FP.l2d v1) (4607182418800017408 : UInt64))), .second, .val (.int v44), .val (.long (0 : Int64)), .second, .val (.long v46), .second, .val (.long v47), .second] [(.int (lcmpW v46 v47))])) target := by
            intro target kt
            refine XS.ifNo X43.here hx rfl (hb hby at_144) rfl ((if0 _ _).trans (flt (fun q => hc144_51 ((lw_lt v46 v47).mp q))).1) ?_
            exact kt
          refine Done.of ?_ K
          obtain ⟨fs, hr, hrun, hended, hW, hsame⟩ := X43.leave (v := some (.int (nar .boolean v44))) (fun h => by rw [Bd.returns] at h; cases h)
          refine ⟨_, _, ?_, hrun, hended, _, _, rfl, ?_, ⟨_, rfl⟩, hW, hsame.mono (by decide) (by decide)⟩
          · refine XS.iload X43.here hx rfl (hb hby at_147) rfl ?_
            show Steps p.tables e below (T43.setTop (mkF m 149 #[.val (.int p0), .val (.int p1), .val (.int p2), .val (.long v1), .second, .val (.long v38), .second, .val (.int v40), .val (.double (4607182418800017408 : UInt64)), .second, .val (.double (FP.dmul (FP.l2d v38) (4607182418800017408 : UInt64))), .second, .val (.double (FP.dmul (FP.l2d v1) (4607182418800017408 : UInt64))), .second, .val (.int v44), .val (.long (0 : Int64)), .second, .val (.long v46), .second, .val (.long v47), .second] [(.int v44)])) _
            exact retN X43 hx (t := .boolean) Bd.returns (by simp) (hb hby at_149) hr
          · show Q0 Z p0 p1 p2  h0 n0 _ T43.heap _
            rw [e43]
            have hgot := ev44.trans (if_neg (HD.2.2.2.2.2.2.1 hc133_49 hc144_51))
            rw [hgot]
            exact ⟨rfl, N43⟩
      · have K : ∀ target, Steps p.tables e below (T43.setTop (mkF m 136 #[.val (.int p0), .val (.int p1), .val (.int p2), .val (.long v1), .second, .val (.long v38), .second, .val (.int v40), .val (.double (4607182418800017408 : UInt64)), .second, .val (.double (FP.dmul (FP.l2d v38) (4607182418800017408 : UInt64))), .second, .val (.double (FP.dmul (FP.l2d v1) (4607182418800017408 : UInt64))), .second, .val (.int v44), .val (.long (0 : Int64)), .second, .val (.long v46), .second, .val (.long v47), .second] [])) target → Steps p.tables e below (T43.setTop (mkF m 133 #[.val (.int p0), .val (.int p1), .val (.int p2), .val (.long v1), .second, .val (.long v38), .second, .val (.int v40), .val (.double (4607182418800017408 : UInt64)), .second, .val (.double (FP.dmul (FP.l2d v38) (4607182418800017408 : UInt64))), .second, .val (.double (FP.dmul (FP.l2d v1) (4607182418800017408 : UInt64))), .second, .val (.int v44), .val (.long (0 : Int64)), .second, .val (.long v46), .second, .val (.long v47), .second] [(.int (lcmpW v38 v1))])) target := by
          intro target kt
          refine XS.ifNo X43.here hx rfl (hb hby at_133) rfl ((if0 _ _).trans (flt (fun q => hc133_49 ((lw_lt v38 v1).mp q))).1) ?_
          exact kt
        refine Done.of ?_ K
        obtain ⟨fs, hr, hrun, hended, hW, hsame⟩ := X43.leave (v := some (.int (nar .boolean v44))) (fun h => by rw [Bd.returns] at h; cases h)
        refine ⟨_, _, ?_, hrun, hended, _, _, rfl, ?_, ⟨_, rfl⟩, hW, hsame.mono (by decide) (by decide)⟩
        · refine XS.iload X43.here hx rfl (hb hby at_136) rfl ?_
          show Steps p.tables e below (T43.setTop (mkF m 138 #[.val (.int p0), .val (.int p1), .val (.int p2), .val (.long v1), .second, .val (.long v38), .second, .val (.int v40), .val (.double (4607182418800017408 : UInt64)), .second, .val (.double (FP.dmul (FP.l2d v38) (4607182418800017408 : UInt64))), .second, .val (.double (FP.dmul (FP.l2d v1) (4607182418800017408 : UInt64))), .second, .val (.int v44), .val (.long (0 : Int64)), .second, .val (.long v46), .second, .val (.long v47), .second] [(.int v44)])) _
          exact retN X43 hx (t := .boolean) Bd.returns (by simp) (hb hby at_138) hr
        · show Q0 Z p0 p1 p2  h0 n0 _ T43.heap _
          rw [e43]
          have hgot := ev44.trans (if_neg (HD.2.2.2.2.2.1 hc133_49))
          rw [hgot]
          exact ⟨rfl, N43⟩
    · have K : ∀ target, Steps p.tables e below (T37.setTop (mkF m 59 #[.val (.int p0), .val (.int p1), .val (.int p2), .val (.long v1), .second, .val (.long v38), .second, .val (.int v40), .unset, .unset, .unset, .unset, .unset, .unset, .unset, .unset, .unset, .unset, .unset, .unset, .unset] [])) target → Steps p.tables e below (T37.setTop (mkF m 56 #[.val (.int p0), .val (.int p1), .val (.int p2), .val (.long v1), .second, .val (.long v38), .second, .val (.int v40), .unset, .unset, .unset, .unset, .unset, .unset, .unset, .unset, .unset, .unset, .unset, .unset, .unset] [(.int v40)])) target := by
        intro target kt
        refine XS.ifNo X37.here hx rfl (hb hby at_56) rfl ((if0 _ _).trans (feq hc56_42).1) ?_
        exact kt
      refine Done.of ?_ K
      have HT := own_t ev1
      have HR := own_r1 HT ev36 ev38
      have HG := fun (d mg : Int64) (ed : d = ((((v38 - v1) + (1 : Int64)) * (1000000000 : Int64)) + v1)) (em : mg = ((v1 >>> ((16 : Int32) &&& 0x3f).toInt64) + (16 : Int64))) => own_two (fl := (1 : Int64)) (sc := (4503599627370496 : UInt64)) HT HR (Or.inr ⟨rfl, rfl⟩) ed em
      have H0 := HG _ _ rfl rfl
      obtain ⟨_, _, ⟨T55, L55, k55, n55⟩, -, X55, ⟨Lc55, hQ55, l55, y55, z55⟩, st55⟩ := Jvm.LawKit.callS X37 hx (y := (⟨"com/example/lotwise/lotwise/Relaxation", "mayReach", "(DD)Z"⟩ : MethodName)) hown (mvT hZ (hw _ (List.mem_of_getElem? (i := 6) rfl))) (mvT hZ (hw _ (List.mem_of_getElem? (i := 7) rfl))) (mvT hZ (hw _ (List.mem_of_getElem? (i := 8) rfl))) (mvT hZ (hw _ (List.mem_of_getElem? (i := 9) rfl))) (by decide) (backOf (W := 0) (rm2 l Z a0 hw [] (FP.dmul (FP.l2d v38) (4503599627370496 : UInt64)) (FP.dmul (FP.l2d v1) (4503599627370496 : UInt64)) h0 n0 Z0 H0.2.2.1 H0.2.2.2.1 H0.2.2.2.2.1) hZ (hw _ (List.mem_of_getElem? (i := 9) rfl)) (hw _ (List.mem_of_getElem? (i := 8) rfl)) (by decide) (by decide)) (g := (mkF m 87 #[.val (.int p0), .val (.int p1), .val (.int p2), .val (.long v1), .second, .val (.long v38), .second, .val (.int v40), .val (.double (4503599627370496 : UInt64)), .second, .val (.double (FP.dmul (FP.l2d v38) (4503599627370496 : UInt64))), .second, .val (.double (FP.dmul (FP.l2d v1) (4503599627370496 : UInt64))), .second, .unset, .unset, .unset, .unset, .unset, .unset, .unset] [(.double (FP.dmul (FP.l2d v1) (4503599627370496 : UInt64))), (.double (FP.dmul (FP.l2d v38) (4503599627370496 : UInt64)))])) rfl (by rw [hml]; rfl) (argsL := [(.double (FP.dmul (FP.l2d v38) (4503599627370496 : UInt64))), (.double (FP.dmul (FP.l2d v1) (4503599627370496 : UInt64)))]) (rest := []) (lenOf pd_2 rfl) rfl (by show 2 * 0 + _ ≤ _; exact Nat.le_of_eq rfl) (hb hby at_87) (fun _ _ => ⟨rfl, e37, (by decide : 0 + 0 ≤ _), (by decide : 0 + 0 ≤ _)⟩)
      dsimp only [Pt.U, Pt.locs, Pt.cells, Pt.slots] at X55 l55 y55 z55 st55 hQ55
      rw [l55, y55, z55] at X55
      obtain ⟨rfl, N55q, e55⟩ := hQ55
      have N55 := Fr.app N37 N55q
      obtain ⟨v56, ev56⟩ : ∃ z : Int32, z = (if (cmpValue (FP.dcmp (FP.dmul (FP.l2d v38) (4503599627370496 : UInt64)) (Own.least (FP.dmul (FP.l2d v1) (4503599627370496 : UInt64)))) .l) < (0 : Int32) then (0 : Int32) else (1 : Int32)) := ⟨_, rfl⟩
      have hd94_57 : ¬ (v40 = (0 : Int32)) := by exact hc56_42
      obtain ⟨v58, ev58⟩ : ∃ z : Int64, z = ((((v38 - v1) + (1 : Int64)) * (1000000000 : Int64)) + v1) := ⟨_, rfl⟩
      obtain ⟨v59, ev59⟩ : ∃ z : Int64, z = ((v1 >>> ((16 : Int32) &&& 0x3f).toInt64) + (16 : Int64)) := ⟨_, rfl⟩
      have HD := HG _ _ ev58 ev59
      have K60 : ∀ target, Steps p.tables e below (T55.setTop (mkF m 133 #[.val (.int p0), .val (.int p1), .val (.int p2), .val (.long v1), .second, .val (.long v38), .second, .val (.int v40), .val (.double (4503599627370496 : UInt64)), .second, .val (.double (FP.dmul (FP.l2d v38) (4503599627370496 : UInt64))), .second, .val (.double (FP.dmul (FP.l2d v1) (4503599627370496 : UInt64))), .second, .val (.int v56), .val (.long (1 : Int64)), .second, .val (.long v58), .second, .val (.long v59), .second] [(.int (lcmpW v38 v1))])) target → Steps p.tables e below (T37.setTop (mkF m 59 #[.val (.int p0), .val (.int p1), .val (.int p2), .val (.long v1), .second, .val (.long v38), .second, .val (.int v40), .unset, .unset, .unset, .unset, .unset, .unset, .unset, .unset, .unset, .unset, .unset, .unset, .unset] [])) target := by
        intro target kt
        show Steps p.tables e below (T37.setTop (mkF m 59 #[.val (.int p0), .val (.int p1), .val (.int p2), .val (.long v1), .second, .val (.long v38), .second, .val (.int v40), .unset, .unset, .unset, .unset, .unset, .unset, .unset, .unset, .unset, .unset, .unset, .unset, .unset] [])) _
        refine X37.ldc2DoubleC hx hown (mvT hZ (hw _ (List.mem_of_getElem? (i := 5) rfl))) (g := (mkF m 59 #[.val (.int p0), .val (.int p1), .val (.int p2), .val (.long v1), .second, .val (.long v38), .second, .val (.int v40), .unset, .unset, .unset, .unset, .unset, .unset, .unset, .unset, .unset, .unset, .unset, .unset, .unset] [])) rfl (hb hby at_59) _ ?_
        show Steps p.tables e below (T37.setTop (mkF m 62 #[.val (.int p0), .val (.int p1), .val (.int p2), .val (.long v1), .second, .val (.long v38), .second, .val (.int v40), .unset, .unset, .unset, .unset, .unset, .unset, .unset, .unset, .unset, .unset, .unset, .unset, .unset] [(.double (4503599627370496 : UInt64))])) _
        refine XS.goto X37.here hx rfl (pc0 := 62) (pc' := 66) rfl (hb hby at_62) (by decide) (by decide) ?_
        show Steps p.tables e below (T37.setTop (mkF m 66 #[.val (.int p0), .val (.int p1), .val (.int p2), .val (.long v1), .second, .val (.long v38), .second, .val (.int v40), .unset, .unset, .unset, .unset, .unset, .unset, .unset, .unset, .unset, .unset, .unset, .unset, .unset] [(.double (4503599627370496 : UInt64))])) _
        refine XS.dstore X37.here hx rfl (hb hby at_66) rfl (l' := #[.val (.int p0), .val (.int p1), .val (.int p2), .val (.long v1), .second, .val (.long v38), .second, .val (.int v40), .val (.double (4503599627370496 : UInt64)), .second, .unset, .unset, .unset, .unset, .unset, .unset, .unset, .unset, .unset, .unset, .unset]) rfl ?_
        show Steps p.tables e below (T37.setTop (mkF m 68 #[.val (.int p0), .val (.int p1), .val (.int p2), .val (.long v1), .second, .val (.long v38), .second, .val (.int v40), .val (.double (4503599627370496 : UInt64)), .second, .unset, .unset, .unset, .unset, .unset, .unset, .unset, .unset, .unset, .unset, .unset] [])) _
        refine XS.lload X37.here hx rfl (hb hby at_68) rfl ?_
        show Steps p.tables e below (T37.setTop (mkF m 70 #[.val (.int p0), .val (.int p1), .val (.int p2), .val (.long v1), .second, .val (.long v38), .second, .val (.int v40), .val (.double (4503599627370496 : UInt64)), .second, .unset, .unset, .unset, .unset, .unset, .unset, .unset, .unset, .unset, .unset, .unset] [(.long v38)])) _
        refine XS.l2dS X37.here hx rfl (hb hby at_70) rfl rfl ?_
        show Steps p.tables e below (T37.setTop (mkF m 71 #[.val (.int p0), .val (.int p1), .val (.int p2), .val (.long v1), .second, .val (.long v38), .second, .val (.int v40), .val (.double (4503599627370496 : UInt64)), .second, .unset, .unset, .unset, .unset, .unset, .unset, .unset, .unset, .unset, .unset, .unset] [(.double (FP.l2d v38))])) _
        refine XS.dload X37.here hx rfl (hb hby at_71) rfl ?_
        refine XS.dmulS X37.here hx rfl (hb hby at_73) rfl (own_nn H0.1) rfl ?_
        refine XS.dstore X37.here hx rfl (hb hby at_74) rfl (l' := #[.val (.int p0), .val (.int p1), .val (.int p2), .val (.long v1), .second, .val (.long v38), .second, .val (.int v40), .val (.double (4503599627370496 : UInt64)), .second, .val (.double (FP.dmul (FP.l2d v38) (4503599627370496 : UInt64))), .second, .unset, .unset, .unset, .unset, .unset, .unset, .unset, .unset, .unset]) rfl ?_
        refine XS.lloadN X37.here hx rfl (hb hby at_76) rfl ?_
        show Steps p.tables e below (T37.setTop (mkF m 77 #[.val (.int p0), .val (.int p1), .val (.int p2), .val (.long v1), .second, .val (.long v38), .second, .val (.int v40), .val (.double (4503599627370496 : UInt64)), .second, .val (.double (FP.dmul (FP.l2d v38) (4503599627370496 : UInt64))), .second, .unset, .unset, .unset, .unset, .unset, .unset, .unset, .unset, .unset] [(.long v1)])) _
        refine XS.l2dS X37.here hx rfl (hb hby at_77) rfl rfl ?_
        refine XS.dload X37.here hx rfl (hb hby at_78) rfl ?_
        refine XS.dmulS X37.here hx rfl (hb hby at_80) rfl (own_nn H0.2.1) rfl ?_
        refine XS.dstore X37.here hx rfl (hb hby at_81) rfl (l' := #[.val (.int p0), .val (.int p1), .val (.int p2), .val (.long v1), .second, .val (.long v38), .second, .val (.int v40), .val (.double (4503599627370496 : UInt64)), .second, .val (.double (FP.dmul (FP.l2d v38) (4503599627370496 : UInt64))), .second, .val (.double (FP.dmul (FP.l2d v1) (4503599627370496 : UInt64))), .second, .unset, .unset, .unset, .unset, .unset, .unset, .unset]) rfl ?_
        show Steps p.tables e below (T37.setTop (mkF m 83 #[.val (.int p0), .val (.int p1), .val (.int p2), .val (.long v1), .second, .val (.long v38), .second, .val (.int v40), .val (.double (4503599627370496 : UInt64)), .second, .val (.double (FP.dmul (FP.l2d v38) (4503599627370496 : UInt64))), .second, .val (.double (FP.dmul (FP.l2d v1) (4503599627370496 : UInt64))), .second, .unset, .unset, .unset, .unset, .unset, .unset, .unset] [])) _
        refine XS.dload X37.here hx rfl (hb hby at_83) rfl ?_
        refine XS.dload X37.here hx rfl (hb hby at_85) rfl ?_
        refine st55 _ ?_
        show Steps p.tables e below (T55.setTop (mkF m 90 #[.val (.int p0), .val (.int p1), .val (.int p2), .val (.long v1), .second, .val (.long v38), .second, .val (.int v40), .val (.double (4503599627370496 : UInt64)), .second, .val (.double (FP.dmul (FP.l2d v38) (4503599627370496 : UInt64))), .second, .val (.double (FP.dmul (FP.l2d v1) (4503599627370496 : UInt64))), .second, .unset, .unset, .unset, .unset, .unset, .unset, .unset] [(.int (if (cmpValue (FP.dcmp (FP.dmul (FP.l2d v38) (4503599627370496 : UInt64)) (Own.least (FP.dmul (FP.l2d v1) (4503599627370496 : UInt64)))) .l) < (0 : Int32) then (0 : Int32) else (1 : Int32)))])) _
        rw [← ev56]
        show Steps p.tables e below (T55.setTop (mkF m 90 #[.val (.int p0), .val (.int p1), .val (.int p2), .val (.long v1), .second, .val (.long v38), .second, .val (.int v40), .val (.double (4503599627370496 : UInt64)), .second, .val (.double (FP.dmul (FP.l2d v38) (4503599627370496 : UInt64))), .second, .val (.double (FP.dmul (FP.l2d v1) (4503599627370496 : UInt64))), .second, .unset, .unset, .unset, .unset, .unset, .unset, .unset] [(.int v56)])) _
        refine XS.istore X55.here hx rfl (hb hby at_90) rfl (l' := #[.val (.int p0), .val (.int p1), .val (.int p2), .val (.long v1), .second, .val (.long v38), .second, .val (.int v40), .val (.double (4503599627370496 : UInt64)), .second, .val (.double (FP.dmul (FP.l2d v38) (4503599627370496 : UInt64))), .second, .val (.double (FP.dmul (FP.l2d v1) (4503599627370496 : UInt64))), .second, .val (.int v56), .unset, .unset, .unset, .unset, .unset, .unset]) rfl ?_
        show Steps p.tables e below (T55.setTop (mkF m 92 #[.val (.int p0), .val (.int p1), .val (.int p2), .val (.long v1), .second, .val (.long v38), .second, .val (.int v40), .val (.double (4503599627370496 : UInt64)), .second, .val (.double (FP.dmul (FP.l2d v38) (4503599627370496 : UInt64))), .second, .val (.double (FP.dmul (FP.l2d v1) (4503599627370496 : UInt64))), .second, .val (.int v56), .unset, .unset, .unset, .unset, .unset, .unset] [])) _
        refine XS.iload X55.here hx rfl (hb hby at_92) rfl ?_
        show Steps p.tables e below (T55.setTop (mkF m 94 #[.val (.int p0), .val (.int p1), .val (.int p2), .val (.long v1), .second, .val (.long v38), .second, .val (.int v40), .val (.double (4503599627370496 : UInt64)), .second, .val (.double (FP.dmul (FP.l2d v38) (4503599627370496 : UInt64))), .second, .val (.double (FP.dmul (FP.l2d v1) (4503599627370496 : UInt64))), .second, .val (.int v56), .unset, .unset, .unset, .unset, .unset, .unset] [(.int v40)])) _
        refine XS.ifNo X55.here hx rfl (hb hby at_94) rfl ((if0 _ _).trans (feq hd94_57).1) ?_
        refine XS.lconst X55.here hx rfl (hb hby at_97) ?_
        show Steps p.tables e below (T55.setTop (mkF m 98 #[.val (.int p0), .val (.int p1), .val (.int p2), .val (.long v1), .second, .val (.long v38), .second, .val (.int v40), .val (.double (4503599627370496 : UInt64)), .second, .val (.double (FP.dmul (FP.l2d v38) (4503599627370496 : UInt64))), .second, .val (.double (FP.dmul (FP.l2d v1) (4503599627370496 : UInt64))), .second, .val (.int v56), .unset, .unset, .unset, .unset, .unset, .unset] [(.long (1 : Int64))])) _
        refine XS.goto X55.here hx rfl (pc0 := 98) (pc' := 102) rfl (hb hby at_98) (by decide) (by decide) ?_
        refine XS.lstore X55.here hx rfl (hb hby at_102) rfl (l' := #[.val (.int p0), .val (.int p1), .val (.int p2), .val (.long v1), .second, .val (.long v38), .second, .val (.int v40), .val (.double (4503599627370496 : UInt64)), .second, .val (.double (FP.dmul (FP.l2d v38) (4503599627370496 : UInt64))), .second, .val (.double (FP.dmul (FP.l2d v1) (4503599627370496 : UInt64))), .second, .val (.int v56), .val (.long (1 : Int64)), .second, .unset, .unset, .unset, .unset]) rfl ?_
        refine XS.lload X55.here hx rfl (hb hby at_104) rfl ?_
        show Steps p.tables e below (T55.setTop (mkF m 106 #[.val (.int p0), .val (.int p1), .val (.int p2), .val (.long v1), .second, .val (.long v38), .second, .val (.int v40), .val (.double (4503599627370496 : UInt64)), .second, .val (.double (FP.dmul (FP.l2d v38) (4503599627370496 : UInt64))), .second, .val (.double (FP.dmul (FP.l2d v1) (4503599627370496 : UInt64))), .second, .val (.int v56), .val (.long (1 : Int64)), .second, .unset, .unset, .unset, .unset] [(.long v38)])) _
        refine XS.lloadN X55.here hx rfl (hb hby at_106) rfl ?_
        refine XS.lsub X55.here hx rfl (hb hby at_107) rfl ?_
        refine XS.lload X55.here hx rfl (hb hby at_108) rfl ?_
        refine XS.ladd X55.here hx rfl (hb hby at_110) rfl ?_
        show Steps p.tables e below (T55.setTop (mkF m 111 #[.val (.int p0), .val (.int p1), .val (.int p2), .val (.long v1), .second, .val (.long v38), .second, .val (.int v40), .val (.double (4503599627370496 : UInt64)), .second, .val (.double (FP.dmul (FP.l2d v38) (4503599627370496 : UInt64))), .second, .val (.double (FP.dmul (FP.l2d v1) (4503599627370496 : UInt64))), .second, .val (.int v56), .val (.long (1 : Int64)), .second, .unset, .unset, .unset, .unset] [(.long ((v38 - v1) + (1 : Int64)))])) _
        refine X55.ldc2Long hx hown (mvT hZ (hw _ (List.mem_of_getElem? (i := 15) rfl))) (g := (mkF m 111 #[.val (.int p0), .val (.int p1), .val (.int p2), .val (.long v1), .second, .val (.long v38), .second, .val (.int v40), .val (.double (4503599627370496 : UInt64)), .second, .val (.double (FP.dmul (FP.l2d v38) (4503599627370496 : UInt64))), .second, .val (.double (FP.dmul (FP.l2d v1) (4503599627370496 : UInt64))), .second, .val (.int v56), .val (.long (1 : Int64)), .second, .unset, .unset, .unset, .unset] [(.long ((v38 - v1) + (1 : Int64)))])) rfl (hb hby at_111) _ ?_
        refine XS.lmul X55.here hx rfl (hb hby at_114) rfl ?_
        refine XS.lloadN X55.here hx rfl (hb hby at_115) rfl ?_
        refine XS.ladd X55.here hx rfl (hb hby at_116) rfl ?_
        show Steps p.tables e below (T55.setTop (mkF m 117 #[.val (.int p0), .val (.int p1), .val (.int p2), .val (.long v1), .second, .val (.long v38), .second, .val (.int v40), .val (.double (4503599627370496 : UInt64)), .second, .val (.double (FP.dmul (FP.l2d v38) (4503599627370496 : UInt64))), .second, .val (.double (FP.dmul (FP.l2d v1) (4503599627370496 : UInt64))), .second, .val (.int v56), .val (.long (1 : Int64)), .second, .unset, .unset, .unset, .unset] [(.long ((((v38 - v1) + (1 : Int64)) * (1000000000 : Int64)) + v1))])) _
        rw [← ev58]
        show Steps p.tables e below (T55.setTop (mkF m 117 #[.val (.int p0), .val (.int p1), .val (.int p2), .val (.long v1), .second, .val (.long v38), .second, .val (.int v40), .val (.double (4503599627370496 : UInt64)), .second, .val (.double (FP.dmul (FP.l2d v38) (4503599627370496 : UInt64))), .second, .val (.double (FP.dmul (FP.l2d v1) (4503599627370496 : UInt64))), .second, .val (.int v56), .val (.long (1 : Int64)), .second, .unset, .unset, .unset, .unset] [(.long v58)])) _
        refine XS.lstore X55.here hx rfl (hb hby at_117) rfl (l' := #[.val (.int p0), .val (.int p1), .val (.int p2), .val (.long v1), .second, .val (.long v38), .second, .val (.int v40), .val (.double (4503599627370496 : UInt64)), .second, .val (.double (FP.dmul (FP.l2d v38) (4503599627370496 : UInt64))), .second, .val (.double (FP.dmul (FP.l2d v1) (4503599627370496 : UInt64))), .second, .val (.int v56), .val (.long (1 : Int64)), .second, .val (.long v58), .second, .unset, .unset]) rfl ?_
        refine XS.lloadN X55.here hx rfl (hb hby at_119) rfl ?_
        refine XS.bipush X55.here hx rfl (hb hby at_120) ?_
        refine XS.lshr X55.here hx rfl (hb hby at_122) rfl ?_
        show Steps p.tables e below (T55.setTop (mkF m 123 #[.val (.int p0), .val (.int p1), .val (.int p2), .val (.long v1), .second, .val (.long v38), .second, .val (.int v40), .val (.double (4503599627370496 : UInt64)), .second, .val (.double (FP.dmul (FP.l2d v38) (4503599627370496 : UInt64))), .second, .val (.double (FP.dmul (FP.l2d v1) (4503599627370496 : UInt64))), .second, .val (.int v56), .val (.long (1 : Int64)), .second, .val (.long v58), .second, .unset, .unset] [(.long (v1 >>> ((16 : Int32) &&& 0x3f).toInt64))])) _
        refine X55.ldc2Long hx hown (mvT hZ (hw _ (List.mem_of_getElem? (i := 16) rfl))) (g := (mkF m 123 #[.val (.int p0), .val (.int p1), .val (.int p2), .val (.long v1), .second, .val (.long v38), .second, .val (.int v40), .val (.double (4503599627370496 : UInt64)), .second, .val (.double (FP.dmul (FP.l2d v38) (4503599627370496 : UInt64))), .second, .val (.double (FP.dmul (FP.l2d v1) (4503599627370496 : UInt64))), .second, .val (.int v56), .val (.long (1 : Int64)), .second, .val (.long v58), .second, .unset, .unset] [(.long (v1 >>> ((16 : Int32) &&& 0x3f).toInt64))])) rfl (hb hby at_123) _ ?_
        refine XS.ladd X55.here hx rfl (hb hby at_126) rfl ?_
        show Steps p.tables e below (T55.setTop (mkF m 127 #[.val (.int p0), .val (.int p1), .val (.int p2), .val (.long v1), .second, .val (.long v38), .second, .val (.int v40), .val (.double (4503599627370496 : UInt64)), .second, .val (.double (FP.dmul (FP.l2d v38) (4503599627370496 : UInt64))), .second, .val (.double (FP.dmul (FP.l2d v1) (4503599627370496 : UInt64))), .second, .val (.int v56), .val (.long (1 : Int64)), .second, .val (.long v58), .second, .unset, .unset] [(.long ((v1 >>> ((16 : Int32) &&& 0x3f).toInt64) + (16 : Int64)))])) _
        rw [← ev59]
        show Steps p.tables e below (T55.setTop (mkF m 127 #[.val (.int p0), .val (.int p1), .val (.int p2), .val (.long v1), .second, .val (.long v38), .second, .val (.int v40), .val (.double (4503599627370496 : UInt64)), .second, .val (.double (FP.dmul (FP.l2d v38) (4503599627370496 : UInt64))), .second, .val (.double (FP.dmul (FP.l2d v1) (4503599627370496 : UInt64))), .second, .val (.int v56), .val (.long (1 : Int64)), .second, .val (.long v58), .second, .unset, .unset] [(.long v59)])) _
        refine XS.lstore X55.here hx rfl (hb hby at_127) rfl (l' := #[.val (.int p0), .val (.int p1), .val (.int p2), .val (.long v1), .second, .val (.long v38), .second, .val (.int v40), .val (.double (4503599627370496 : UInt64)), .second, .val (.double (FP.dmul (FP.l2d v38) (4503599627370496 : UInt64))), .second, .val (.double (FP.dmul (FP.l2d v1) (4503599627370496 : UInt64))), .second, .val (.int v56), .val (.long (1 : Int64)), .second, .val (.long v58), .second, .val (.long v59), .second]) rfl ?_
        refine XS.lload X55.here hx rfl (hb hby at_129) rfl ?_
        show Steps p.tables e below (T55.setTop (mkF m 131 #[.val (.int p0), .val (.int p1), .val (.int p2), .val (.long v1), .second, .val (.long v38), .second, .val (.int v40), .val (.double (4503599627370496 : UInt64)), .second, .val (.double (FP.dmul (FP.l2d v38) (4503599627370496 : UInt64))), .second, .val (.double (FP.dmul (FP.l2d v1) (4503599627370496 : UInt64))), .second, .val (.int v56), .val (.long (1 : Int64)), .second, .val (.long v58), .second, .val (.long v59), .second] [(.long v38)])) _
        refine XS.lloadN X55.here hx rfl (hb hby at_131) rfl ?_
        refine XS.lcmp X55.here hx rfl (hb hby at_132) rfl ?_
        exact kt
      refine Done.of ?_ K60
      by_cases hc133_61 : v38 < v1
      · have K : ∀ target, Steps p.tables e below (T55.setTop (mkF m 139 #[.val (.int p0), .val (.int p1), .val (.int p2), .val (.long v1), .second, .val (.long v38), .second, .val (.int v40), .val (.double (4503599627370496 : UInt64)), .second, .val (.double (FP.dmul (FP.l2d v38) (4503599627370496 : UInt64))), .second, .val (.double (FP.dmul (FP.l2d v1) (4503599627370496 : UInt64))), .second, .val (.int v56), .val (.long (1 : Int64)), .second, .val (.long v58), .second, .val (.long v59), .second] [])) target → Steps p.tables e below (T55.setTop (mkF m 133 #[.val (.int p0), .val (.int p1), .val (.int p2), .val (.long v1), .second, .val (.long v38), .second, .val (.int v40), .val (.double (4503599627370496 : UInt64)), .second, .val (.double (FP.dmul (FP.l2d v38) (4503599627370496 : UInt64))), .second, .val (.double (FP.dmul (FP.l2d v1) (4503599627370496 : UInt64))), .second, .val (.int v56), .val (.long (1 : Int64)), .second, .val (.long v58), .second, .val (.long v59), .second] [(.int (lcmpW v38 v1))])) target := by
          intro target kt
          refine XS.ifYes X55.here hx rfl (pc0 := 133) (pc' := 139) rfl (hb hby at_133) rfl ((if0 _ _).trans (tlt ((lw_lt v38 v1).mpr hc133_61)).1) (by decide) (by decide) ?_
          exact kt
        refine Done.of ?_ K
        have K62 : ∀ target, Steps p.tables e below (T55.setTop (mkF m 144 #[.val (.int p0), .val (.int p1), .val (.int p2), .val (.long v1), .second, .val (.long v38), .second, .val (.int v40), .val (.double (4503599627370496 : UInt64)), .second, .val (.double (FP.dmul (FP.l2d v38) (4503599627370496 : UInt64))), .second, .val (.double (FP.dmul (FP.l2d v1) (4503599627370496 : UInt64))), .second, .val (.int v56), .val (.long (1 : Int64)), .second, .val (.long v58), .second, .val (.long v59), .second] [(.int (lcmpW v58 v59))])) target → Steps p.tables e below (T55.setTop (mkF m 139 #[.val (.int p0), .val (.int p1), .val (.int p2), .val (.long v1), .second, .val (.long v38), .second, .val (.int v40), .val (.double (4503599627370496 : UInt64)), .second, .val (.double (FP.dmul (FP.l2d v38) (4503599627370496 : UInt64))), .second, .val (.double (FP.dmul (FP.l2d v1) (4503599627370496 : UInt64))), .second, .val (.int v56), .val (.long (1 : Int64)), .second, .val (.long v58), .second, .val (.long v59), .second] [])) target := by
          intro target kt
          refine XS.lload X55.here hx rfl (hb hby at_139) rfl ?_
          refine XS.lload X55.here hx rfl (hb hby at_141) rfl ?_
          show Steps p.tables e below (T55.setTop (mkF m 143 #[.val (.int p0), .val (.int p1), .val (.int p2), .val (.long v1), .second, .val (.long v38), .second, .val (.int v40), .val (.double (4503599627370496 : UInt64)), .second, .val (.double (FP.dmul (FP.l2d v38) (4503599627370496 : UInt64))), .second, .val (.double (FP.dmul (FP.l2d v1) (4503599627370496 : UInt64))), .second, .val (.int v56), .val (.long (1 : Int64)), .second, .val (.long v58), .second, .val (.long v59), .second] [(.long v59), (.long v58)])) _
          refine XS.lcmp X55.here hx rfl (hb hby at_143) rfl ?_
          exact kt
        refine Done.of ?_ K62
        by_cases hc144_63 : v58 < v59
        · have K : ∀ target, Steps p.tables e below (T55.setTop (mkF m 150 #[.val (.int p0), .val (.int p1), .val (.int p2), .val (.long v1), .second, .val (.long v38), .second, .val (.int v40), .val (.double (4503599627370496 : UInt64)), .second, .val (.double (FP.dmul (FP.l2d v38) (4503599627370496 : UInt64))), .second, .val (.double (FP.dmul (FP.l2d v1) (4503599627370496 : UInt64))), .second, .val (.int v56), .val (.long (1 : Int64)), .second, .val (.long v58), .second, .val (.long v59), .second] [])) target → Steps p.tables e below (T55.setTop (mkF m 144 #[.val (.int p0), .val (.int p1), .val (.int p2), .val (.long v1), .second, .val (.long v38), .second, .val (.int v40), .val (.double (4503599627370496 : UInt64)), .second, .val (.double (FP.dmul (FP.l2d v38) (4503599627370496 : UInt64))), .second, .val (.double (FP.dmul (FP.l2d v1) (4503599627370496 : UInt64))), .second, .val (.int v56), .val (.long (1 : Int64)), .second, .val (.long v58), .second, .val (.long v59), .second] [(.int (lcmpW v58 v59))])) target := by
            intro target kt
            refine XS.ifYes X55.here hx rfl (pc0 := 144) (pc' := 150) rfl (hb hby at_144) rfl ((if0 _ _).trans (tlt ((lw_lt v58 v59).mpr hc144_63)).1) (by decide) (by decide) ?_
            exact kt
          refine Done.of ?_ K
          have K64 : ∀ target, Steps p.tables e below (T55.setTop (mkF m 156 #[.val (.int p0), .val (.int p1), .val (.int p2), .val (.long v1), .second, .val (.long v38), .second, .val (.int v40), .val (.double (4503599627370496 : UInt64)), .second, .val (.double (FP.dmul (FP.l2d v38) (4503599627370496 : UInt64))), .second, .val (.double (FP.dmul (FP.l2d v1) (4503599627370496 : UInt64))), .second, .val (.int v56), .val (.long (1 : Int64)), .second, .val (.long v58), .second, .val (.long v59), .second] [(.int (lcmpW v58 (-v59)))])) target → Steps p.tables e below (T55.setTop (mkF m 150 #[.val (.int p0), .val (.int p1), .val (.int p2), .val (.long v1), .second, .val (.long v38), .second, .val (.int v40), .val (.double (4503599627370496 : UInt64)), .second, .val (.double (FP.dmul (FP.l2d v38) (4503599627370496 : UInt64))), .second, .val (.double (FP.dmul (FP.l2d v1) (4503599627370496 : UInt64))), .second, .val (.int v56), .val (.long (1 : Int64)), .second, .val (.long v58), .second, .val (.long v59), .second] [])) target := by
            intro target kt
            refine XS.lload X55.here hx rfl (hb hby at_150) rfl ?_
            refine XS.lload X55.here hx rfl (hb hby at_152) rfl ?_
            refine XS.lneg X55.here hx rfl (hb hby at_154) rfl ?_
            show Steps p.tables e below (T55.setTop (mkF m 155 #[.val (.int p0), .val (.int p1), .val (.int p2), .val (.long v1), .second, .val (.long v38), .second, .val (.int v40), .val (.double (4503599627370496 : UInt64)), .second, .val (.double (FP.dmul (FP.l2d v38) (4503599627370496 : UInt64))), .second, .val (.double (FP.dmul (FP.l2d v1) (4503599627370496 : UInt64))), .second, .val (.int v56), .val (.long (1 : Int64)), .second, .val (.long v58), .second, .val (.long v59), .second] [(.long (-v59)), (.long v58)])) _
            refine XS.lcmp X55.here hx rfl (hb hby at_155) rfl ?_
            exact kt
          refine Done.of ?_ K64
          by_cases hc156_65 : (-v59) < v58
          · have K : ∀ target, Steps p.tables e below (T55.setTop (mkF m 170 #[.val (.int p0), .val (.int p1), .val (.int p2), .val (.long v1), .second, .val (.long v38), .second, .val (.int v40), .val (.double (4503599627370496 : UInt64)), .second, .val (.double (FP.dmul (FP.l2d v38) (4503599627370496 : UInt64))), .second, .val (.double (FP.dmul (FP.l2d v1) (4503599627370496 : UInt64))), .second, .val (.int v56), .val (.long (1 : Int64)), .second, .val (.long v58), .second, .val (.long v59), .second] [])) target → Steps p.tables e below (T55.setTop (mkF m 156 #[.val (.int p0), .val (.int p1), .val (.int p2), .val (.long v1), .second, .val (.long v38), .second, .val (.int v40), .val (.double (4503599627370496 : UInt64)), .second, .val (.double (FP.dmul (FP.l2d v38) (4503599627370496 : UInt64))), .second, .val (.double (FP.dmul (FP.l2d v1) (4503599627370496 : UInt64))), .second, .val (.int v56), .val (.long (1 : Int64)), .second, .val (.long v58), .second, .val (.long v59), .second] [(.int (lcmpW v58 (-v59)))])) target := by
              intro target kt
              refine XS.ifYes X55.here hx rfl (pc0 := 156) (pc' := 170) rfl (hb hby at_156) rfl ((if0 _ _).trans (tlt ((lw_gt v58 (-v59)).mpr hc156_65)).2.2.1) (by decide) (by decide) ?_
              exact kt
            refine Done.of ?_ K
            obtain ⟨fs, hr, hrun, hended, hW, hsame⟩ := X55.leave (v := some (.int (1 : Int32))) (fun h => by rw [Bd.returns] at h; cases h)
            refine ⟨_, _, ?_, hrun, hended, _, _, rfl, ?_, ⟨_, rfl⟩, hW, hsame.mono (by decide) (by decide)⟩
            · refine XS.iconst X55.here hx rfl (hb hby at_170) ?_
              show Steps p.tables e below (T55.setTop (mkF m 171 #[.val (.int p0), .val (.int p1), .val (.int p2), .val (.long v1), .second, .val (.long v38), .second, .val (.int v40), .val (.double (4503599627370496 : UInt64)), .second, .val (.double (FP.dmul (FP.l2d v38) (4503599627370496 : UInt64))), .second, .val (.double (FP.dmul (FP.l2d v1) (4503599627370496 : UInt64))), .second, .val (.int v56), .val (.long (1 : Int64)), .second, .val (.long v58), .second, .val (.long v59), .second] [(.int (1 : Int32))])) _
              exact retN X55 hx (t := .boolean) Bd.returns (by simp) (hb hby at_171) hr
            · show Q0 Z p0 p1 p2  h0 n0 _ T55.heap _
              rw [e55]
              exact ⟨rfl, N55⟩
          · have K : ∀ target, Steps p.tables e below (T55.setTop (mkF m 159 #[.val (.int p0), .val (.int p1), .val (.int p2), .val (.long v1), .second, .val (.long v38), .second, .val (.int v40), .val (.double (4503599627370496 : UInt64)), .second, .val (.double (FP.dmul (FP.l2d v38) (4503599627370496 : UInt64))), .second, .val (.double (FP.dmul (FP.l2d v1) (4503599627370496 : UInt64))), .second, .val (.int v56), .val (.long (1 : Int64)), .second, .val (.long v58), .second, .val (.long v59), .second] [])) target → Steps p.tables e below (T55.setTop (mkF m 156 #[.val (.int p0), .val (.int p1), .val (.int p2), .val (.long v1), .second, .val (.long v38), .second, .val (.int v40), .val (.double (4503599627370496 : UInt64)), .second, .val (.double (FP.dmul (FP.l2d v38) (4503599627370496 : UInt64))), .second, .val (.double (FP.dmul (FP.l2d v1) (4503599627370496 : UInt64))), .second, .val (.int v56), .val (.long (1 : Int64)), .second, .val (.long v58), .second, .val (.long v59), .second] [(.int (lcmpW v58 (-v59)))])) target := by
              intro target kt
              refine XS.ifNo X55.here hx rfl (hb hby at_156) rfl ((if0 _ _).trans (flt (fun q => hc156_65 ((lw_gt v58 (-v59)).mp q))).2.2.1) ?_
              exact kt
            refine Done.of ?_ K
            have J161_66 : ∀ wj : Int32, wj = (if v56 = (0 : Int32) then (1 : Int32) else (0 : Int32)) → ∀ target, Steps p.tables e below (T55.setTop (mkF m 169 #[.val (.int p0), .val (.int p1), .val (.int p2), .val (.long v1), .second, .val (.long v38), .second, .val (.int v40), .val (.double (4503599627370496 : UInt64)), .second, .val (.double (FP.dmul (FP.l2d v38) (4503599627370496 : UInt64))), .second, .val (.double (FP.dmul (FP.l2d v1) (4503599627370496 : UInt64))), .second, .val (.int v56), .val (.long (1 : Int64)), .second, .val (.long v58), .second, .val (.long v59), .second] [(.int wj)])) target → Steps p.tables e below (T55.setTop (mkF m 161 #[.val (.int p0), .val (.int p1), .val (.int p2), .val (.long v1), .second, .val (.long v38), .second, .val (.int v40), .val (.double (4503599627370496 : UInt64)), .second, .val (.double (FP.dmul (FP.l2d v38) (4503599627370496 : UInt64))), .second, .val (.double (FP.dmul (FP.l2d v1) (4503599627370496 : UInt64))), .second, .val (.int v56), .val (.long (1 : Int64)), .second, .val (.long v58), .second, .val (.long v59), .second] [(.int v56)])) target := by
              intro wj hw0 target kt
              by_cases hj161 : v56 = (0 : Int32)
              · rw [if_pos hj161] at hw0
                show Steps p.tables e below (T55.setTop (mkF m 161 #[.val (.int p0), .val (.int p1), .val (.int p2), .val (.long v1), .second, .val (.long v38), .second, .val (.int v40), .val (.double (4503599627370496 : UInt64)), .second, .val (.double (FP.dmul (FP.l2d v38) (4503599627370496 : UInt64))), .second, .val (.double (FP.dmul (FP.l2d v1) (4503599627370496 : UInt64))), .second, .val (.int v56), .val (.long (1 : Int64)), .second, .val (.long v58), .second, .val (.long v59), .second] [(.int v56)])) _
                refine XS.ifNo X55.here hx rfl (hb hby at_161) rfl ((if0 _ _).trans (teq hj161).2) ?_
                refine XS.iconst X55.here hx rfl (hb hby at_164) ?_
                show Steps p.tables e below (T55.setTop (mkF m 165 #[.val (.int p0), .val (.int p1), .val (.int p2), .val (.long v1), .second, .val (.long v38), .second, .val (.int v40), .val (.double (4503599627370496 : UInt64)), .second, .val (.double (FP.dmul (FP.l2d v38) (4503599627370496 : UInt64))), .second, .val (.double (FP.dmul (FP.l2d v1) (4503599627370496 : UInt64))), .second, .val (.int v56), .val (.long (1 : Int64)), .second, .val (.long v58), .second, .val (.long v59), .second] [(.int (1 : Int32))])) _
                refine XS.goto X55.here hx rfl (pc0 := 165) (pc' := 169) rfl (hb hby at_165) (by decide) (by decide) ?_
                rw [hw0] at kt
                exact kt
              · rw [if_neg hj161] at hw0
                show Steps p.tables e below (T55.setTop (mkF m 161 #[.val (.int p0), .val (.int p1), .val (.int p2), .val (.long v1), .second, .val (.long v38), .second, .val (.int v40), .val (.double (4503599627370496 : UInt64)), .second, .val (.double (FP.dmul (FP.l2d v38) (4503599627370496 : UInt64))), .second, .val (.double (FP.dmul (FP.l2d v1) (4503599627370496 : UInt64))), .second, .val (.int v56), .val (.long (1 : Int64)), .second, .val (.long v58), .second, .val (.long v59), .second] [(.int v56)])) _
                refine XS.ifYes X55.here hx rfl (pc0 := 161) (pc' := 168) rfl (hb hby at_161) rfl ((if0 _ _).trans (feq hj161).2) (by decide) (by decide) ?_
                show Steps p.tables e below (T55.setTop (mkF m 168 #[.val (.int p0), .val (.int p1), .val (.int p2), .val (.long v1), .second, .val (.long v38), .second, .val (.int v40), .val (.double (4503599627370496 : UInt64)), .second, .val (.double (FP.dmul (FP.l2d v38) (4503599627370496 : UInt64))), .second, .val (.double (FP.dmul (FP.l2d v1) (4503599627370496 : UInt64))), .second, .val (.int v56), .val (.long (1 : Int64)), .second, .val (.long v58), .second, .val (.long v59), .second] [])) _
                refine XS.iconst X55.here hx rfl (hb hby at_168) ?_
                rw [hw0] at kt
                exact kt
            obtain ⟨fs, hr, hrun, hended, hW, hsame⟩ := X55.leave (v := some (.int (nar .boolean (if v56 = (0 : Int32) then (1 : Int32) else (0 : Int32))))) (fun h => by rw [Bd.returns] at h; cases h)
            refine ⟨_, _, ?_, hrun, hended, _, _, rfl, ?_, ⟨_, rfl⟩, hW, hsame.mono (by decide) (by decide)⟩
            · refine XS.iload X55.here hx rfl (hb hby at_159) rfl ?_
              show Steps p.tables e below (T55.setTop (mkF m 161 #[.val (.int p0), .val (.int p1), .val (.int p2), .val (.long v1), .second, .val (.long v38), .second, .val (.int v40), .val (.double (4503599627370496 : UInt64)), .second, .val (.double (FP.dmul (FP.l2d v38) (4503599627370496 : UInt64))), .second, .val (.double (FP.dmul (FP.l2d v1) (4503599627370496 : UInt64))), .second, .val (.int v56), .val (.long (1 : Int64)), .second, .val (.long v58), .second, .val (.long v59), .second] [(.int v56)])) _
              refine J161_66 _ rfl _ ?_
              show Steps p.tables e below (T55.setTop (mkF m 169 #[.val (.int p0), .val (.int p1), .val (.int p2), .val (.long v1), .second, .val (.long v38), .second, .val (.int v40), .val (.double (4503599627370496 : UInt64)), .second, .val (.double (FP.dmul (FP.l2d v38) (4503599627370496 : UInt64))), .second, .val (.double (FP.dmul (FP.l2d v1) (4503599627370496 : UInt64))), .second, .val (.int v56), .val (.long (1 : Int64)), .second, .val (.long v58), .second, .val (.long v59), .second] [(.int (if v56 = (0 : Int32) then (1 : Int32) else (0 : Int32)))])) _
              exact retN X55 hx (t := .boolean) Bd.returns (by simp) (hb hby at_169) hr
            · show Q0 Z p0 p1 p2  h0 n0 _ T55.heap _
              rw [e55]
              have hgot := ev56.trans (if_pos (HD.2.2.2.2.2.2.2 hc133_61 hc156_65))
              rw [hgot]
              exact ⟨rfl, N55⟩
        · have K : ∀ target, Steps p.tables e below (T55.setTop (mkF m 147 #[.val (.int p0), .val (.int p1), .val (.int p2), .val (.long v1), .second, .val (.long v38), .second, .val (.int v40), .val (.double (4503599627370496 : UInt64)), .second, .val (.double (FP.dmul (FP.l2d v38) (4503599627370496 : UInt64))), .second, .val (.double (FP.dmul (FP.l2d v1) (4503599627370496 : UInt64))), .second, .val (.int v56), .val (.long (1 : Int64)), .second, .val (.long v58), .second, .val (.long v59), .second] [])) target → Steps p.tables e below (T55.setTop (mkF m 144 #[.val (.int p0), .val (.int p1), .val (.int p2), .val (.long v1), .second, .val (.long v38), .second, .val (.int v40), .val (.double (4503599627370496 : UInt64)), .second, .val (.double (FP.dmul (FP.l2d v38) (4503599627370496 : UInt64))), .second, .val (.double (FP.dmul (FP.l2d v1) (4503599627370496 : UInt64))), .second, .val (.int v56), .val (.long (1 : Int64)), .second, .val (.long v58), .second, .val (.long v59), .second] [(.int (lcmpW v58 v59))])) target := by
            intro target kt
            refine XS.ifNo X55.here hx rfl (hb hby at_144) rfl ((if0 _ _).trans (flt (fun q => hc144_63 ((lw_lt v58 v59).mp q))).1) ?_
            exact kt
          refine Done.of ?_ K
          obtain ⟨fs, hr, hrun, hended, hW, hsame⟩ := X55.leave (v := some (.int (nar .boolean v56))) (fun h => by rw [Bd.returns] at h; cases h)
          refine ⟨_, _, ?_, hrun, hended, _, _, rfl, ?_, ⟨_, rfl⟩, hW, hsame.mono (by decide) (by decide)⟩
          · refine XS.iload X55.here hx rfl (hb hby at_147) rfl ?_
            show Steps p.tables e below (T55.setTop (mkF m 149 #[.val (.int p0), .val (.int p1), .val (.int p2), .val (.long v1), .second, .val (.long v38), .second, .val (.int v40), .val (.double (4503599627370496 : UInt64)), .second, .val (.double (FP.dmul (FP.l2d v38) (4503599627370496 : UInt64))), .second, .val (.double (FP.dmul (FP.l2d v1) (4503599627370496 : UInt64))), .second, .val (.int v56), .val (.long (1 : Int64)), .second, .val (.long v58), .second, .val (.long v59), .second] [(.int v56)])) _
            exact retN X55 hx (t := .boolean) Bd.returns (by simp) (hb hby at_149) hr
          · show Q0 Z p0 p1 p2  h0 n0 _ T55.heap _
            rw [e55]
            have hgot := ev56.trans (if_neg (HD.2.2.2.2.2.2.1 hc133_61 hc144_63))
            rw [hgot]
            exact ⟨rfl, N55⟩
      · have K : ∀ target, Steps p.tables e below (T55.setTop (mkF m 136 #[.val (.int p0), .val (.int p1), .val (.int p2), .val (.long v1), .second, .val (.long v38), .second, .val (.int v40), .val (.double (4503599627370496 : UInt64)), .second, .val (.double (FP.dmul (FP.l2d v38) (4503599627370496 : UInt64))), .second, .val (.double (FP.dmul (FP.l2d v1) (4503599627370496 : UInt64))), .second, .val (.int v56), .val (.long (1 : Int64)), .second, .val (.long v58), .second, .val (.long v59), .second] [])) target → Steps p.tables e below (T55.setTop (mkF m 133 #[.val (.int p0), .val (.int p1), .val (.int p2), .val (.long v1), .second, .val (.long v38), .second, .val (.int v40), .val (.double (4503599627370496 : UInt64)), .second, .val (.double (FP.dmul (FP.l2d v38) (4503599627370496 : UInt64))), .second, .val (.double (FP.dmul (FP.l2d v1) (4503599627370496 : UInt64))), .second, .val (.int v56), .val (.long (1 : Int64)), .second, .val (.long v58), .second, .val (.long v59), .second] [(.int (lcmpW v38 v1))])) target := by
          intro target kt
          refine XS.ifNo X55.here hx rfl (hb hby at_133) rfl ((if0 _ _).trans (flt (fun q => hc133_61 ((lw_lt v38 v1).mp q))).1) ?_
          exact kt
        refine Done.of ?_ K
        obtain ⟨fs, hr, hrun, hended, hW, hsame⟩ := X55.leave (v := some (.int (nar .boolean v56))) (fun h => by rw [Bd.returns] at h; cases h)
        refine ⟨_, _, ?_, hrun, hended, _, _, rfl, ?_, ⟨_, rfl⟩, hW, hsame.mono (by decide) (by decide)⟩
        · refine XS.iload X55.here hx rfl (hb hby at_136) rfl ?_
          show Steps p.tables e below (T55.setTop (mkF m 138 #[.val (.int p0), .val (.int p1), .val (.int p2), .val (.long v1), .second, .val (.long v38), .second, .val (.int v40), .val (.double (4503599627370496 : UInt64)), .second, .val (.double (FP.dmul (FP.l2d v38) (4503599627370496 : UInt64))), .second, .val (.double (FP.dmul (FP.l2d v1) (4503599627370496 : UInt64))), .second, .val (.int v56), .val (.long (1 : Int64)), .second, .val (.long v58), .second, .val (.long v59), .second] [(.int v56)])) _
          exact retN X55 hx (t := .boolean) Bd.returns (by simp) (hb hby at_138) hr
        · show Q0 Z p0 p1 p2  h0 n0 _ T55.heap _
          rw [e55]
          have hgot := ev56.trans (if_neg (HD.2.2.2.2.2.1 hc133_61))
          rw [hgot]
          exact ⟨rfl, N55⟩
set_option maxRecDepth 65536 in
set_option maxHeartbeats 40000000 in
theorem comes_1 {Post : Tables → Env → Array Value → State → Outcome → State → Prop} (hpost : ∀ tb e args s v u, (limb_1_1.after args s (.returned v) u = true ∧ limb_1_2.after args s (.returned v) u = true ∧ True) → FrameEnd s (.returned v) u (Jvm.fieldLocs frame_1_writes args s ++ Jvm.arrayLocs frame_1_arrays args s ++ Jvm.staticLocs frame_1_statics s) 0 0 → Post tb e args s (.returned v) u) :
    ArmFor flags0 classFile x code maxLocals ret World_1 tables_1 room_1 Calls_1 rest_1 Pre_1 Post := by
  intro l hfl _ _ p e ha hc hk s m args below hf hA hF happ hP
  obtain ⟨hcalls, hrest, hpre⟩ := hP
  obtain ⟨-, -, -, hnamed, -, -, -, hat⟩ := (Spec.applies_iff hf).mp happ
  obtain ⟨hg, hn⟩ := and_e (Cond.before_iff.mp (show (Jvm.Cond.and given_1 narrow_1).before args s = true from hpre))
  obtain ⟨g1, g2⟩ := and_e hg
  obtain ⟨g3, g4⟩ := and_e g2
  obtain ⟨g5, g6⟩ := and_e g4
  obtain ⟨w0, w1, w2, rfl⟩ : ∃ w0 w1 w2 : Value, args = #[w0, w1, w2] := by
    have hs : args.size = 3 := by simpa [Cond.value, given_1] using g1
    obtain ⟨L⟩ := args
    match L, hs with
    | [w0, w1, w2], _ => exact ⟨w0, w1, w2, rfl⟩
  have hw := fun d (hd : d ∈ tables_1) => atoms_spec (ws := Jvm.Cond.code x code maxLocals ret :: tables_1) hat d (List.mem_cons_of_mem _ hd)
  have hfit : Fit s := fun {y c} hc i hi => by
    obtain ⟨ha, rfl⟩ := Array.getElem?_eq_some_iff.mp hc
    have q := List.all_eq_true.mp ((Array.all_eq_true_iff_forall_mem.mp hF) _ (Array.getElem_mem ha)) i (List.mem_range.mpr hi)
    simpa [Array.getElem?_eq_getElem hi] using q
  obtain ⟨i0, ei0⟩ := is_v g3
  obtain rfl : w0 = (.int i0) := Option.some.inj ei0
  obtain ⟨i1, ei1⟩ := is_v g5
  obtain rfl : w1 = (.int i1) := Option.some.inj ei1
  obtain ⟨i2, ei2⟩ := is_v g6
  obtain rfl : w2 = (.int i2) := Option.some.inj ei2
  obtain ⟨n, o, h1, h2, h3, _, L, rfl, ⟨rfl, N⟩, hq⟩ := rm0 l s _ hw tables_1 i0 i1 i2  s.heap s.heap.size (Nat.le_refl _)  p e ha hc hk s m _ below hf ((Spec.applies_iff_loose hf).mp happ).1 ⟨rfl, State.Warmed39.refl s, rfl⟩ trivial
  refine ⟨n, _, h1, h2, h3, hpost _ _ _ _ _ _ ⟨Cond.after_iff.mpr rfl, Cond.after_iff.mpr (eq_i res_at (Term.int_eval (1)) rfl), trivial⟩ ⟨hq.1, hq.2.1, (hq.2.2.sift fun y hy => Or.inr (N y hy)).mono (by decide) (by decide)⟩⟩
theorem main_1_1 : Claimed_1_1 := comes_1 fun _ _ _ _ _ _ h hF => ⟨h.1, hF⟩
theorem main_1_2 : Claimed_1_2 := comes_1 fun _ _ _ _ _ _ h hF => ⟨h.2.1, hF⟩
end Jvm.Pilot.@@N@@
namespace Jvm.Pilot.@@N@@
open Jvm Jvm.ClassFile Sem Op Lib Jvm.Free Jvm.Stand Jvm.Pilot.@@N@@.Jvm.D
/-! MADE BY PROGRAM (witnessworld.py) out of the Statement's table words and the real class files: 10 classes; the members and pool entries that the words name. The judged class is class 1, her method 1. -/
namespace start1
open Jvm.ClassFile
def u (s : String) : CpInfo := .utf8 (stringToUtf16 s)
/-- a pool by its gaps: so many unusable entries, then the entry; so many at the end -/
def gap : Nat → List CpInfo → List CpInfo
  | 0, r => r
  | n + 1, r => .unusable :: gap n r
def poolList (es : List (Nat × CpInfo)) (last : Nat) : List CpInfo := es.foldr (fun e r => gap e.1 (e.2 :: r)) (gap last [])
def pool (es : List (Nat × CpInfo)) (last : Nat) : Array CpInfo := ⟨poolList es last⟩
def fileOf (pool : Array CpInfo) (this : Nat) (attrs : Array Attribute := #[]) (ms : Array MethodInfo := #[]) (fl : Nat := 33) (sup : Nat := 0) (ifs : Array Nat := #[]) (fds : Array FieldInfo := #[]) : ClassFile where
  minorVersion := 0
  majorVersion := 65
  constantPool := pool
  accessFlags := fl
  thisClass := this
  superClass := sup
  interfaces := ifs
  fields := fds
  methods := ms
  attributes := attrs
def plain (name : String) (sup : Option ClassId) : Class where
  name := name
  kind := .ordinary
  loader := none
  accessFlags := 33
  super := sup
  interfaces := #[]
  cf := none
  fields := #[]
  methods := #[]
  instanceTypes := #[]
  staticTypes := #[]
  resolved := #[]
  callSites := []
  init := .initialized
  statics := none
  mirror := none

def pool0 : Array CpInfo := pool [(5, u "<init>"), (0, u "()V"), (1, .class_ 10), (1, u "java/lang/Object")] 113

def k0m0 : Method := { name := "<init>", desc := "()V", sig := { parameters := [], returnType := none }, accessFlags := 1, code := none }
/-- java/lang/Object -/
def k0 : Class := { plain "java/lang/Object" none with
  accessFlags := 33
  interfaces := #[]
  cf := some (fileOf pool0 8 #[] #[{ accessFlags := 1, nameIndex := 5, descriptorIndex := 6, attributes := #[] }] 33 0 #[] #[])
  fields := #[]
  methods := #[k0m0]
  instanceTypes := #[]
  staticTypes := #[]
  resolved := Array.replicate 124 none
  statics := none }

def pool1 : Array CpInfo := pool [(2, .class_ 4), (1, u "java/lang/Object"), (0, u "<init>"), (0, u "()V"), (0, .long 2147483647), (1, .methodref 10 11), (0, .class_ 12), (0, .nameAndType 13 14), (0, u "java/lang/Math"), (0, u "max"), (0, u "(JJ)J"), (0, .double 4503599627370496), (1, .methodref 18 19), (0, .class_ 20), (0, .nameAndType 21 22), (0, u "com/example/lotwise/lotwise/Relaxation"), (0, u "mayReach"), (0, u "(DD)Z"), (0, .long 1000000000), (1, .long 16), (1, .class_ 28), (0, u "com/example/lotwise/lotwise/RelaxationMayReachPinLaw"), (2, u "law"), (0, u "(III)Z")] 3

def k1m0 : Method := { name := "<init>", desc := "()V", sig := { parameters := [], returnType := none }, accessFlags := 1, code := none }
def k1c1 : Code := { maxStack := 4, maxLocals := 21, code := code, exceptionTable := #[], attributes := #[] }
def k1m1 : Method := { name := "law", desc := "(III)Z", sig := { parameters := [.int, .int, .int], returnType := some .boolean }, accessFlags := 9, code := some k1c1 }
/-- com/example/lotwise/lotwise/RelaxationMayReachPinLaw -/
def k1 : Class := { plain "com/example/lotwise/lotwise/RelaxationMayReachPinLaw" (some 0) with
  accessFlags := 49
  interfaces := #[]
  cf := some (fileOf pool1 27 #[] #[{ accessFlags := 1, nameIndex := 5, descriptorIndex := 6, attributes := #[] }, { accessFlags := 9, nameIndex := 31, descriptorIndex := 32, attributes := #[] }] 49 2 #[] #[])
  fields := #[]
  methods := #[k1m0, k1m1]
  instanceTypes := #[]
  staticTypes := #[]
  resolved := Array.replicate 36 none
  statics := none }

def pool2 : Array CpInfo := pool [(1, .class_ 2), (0, u "java/lang/Math"), (1, .class_ 6), (1, u "java/lang/Object"), (0, u "<init>"), (0, u "()V"), (89, .class_ 100), (1, u "java/lang/Math$RandomNumberGeneratorHolder"), (20, u "(JJ)J"), (50, u "negativeZeroFloatBits"), (0, u "J"), (2, u "negativeZeroDoubleBits"), (21, u "max"), (46, u "$assertionsDisabled"), (0, u "Z"), (91, u "twoToTheDoubleScaleDown"), (0, u "D"), (4, u "twoToTheDoubleScaleUp"), (9, u "E"), (3, u "PI"), (2, u "TAU"), (2, u "DEGREES_TO_RADIANS"), (0, u "RADIANS_TO_DEGREES")] 94

def k2m0 : Method := { name := "<init>", desc := "()V", sig := { parameters := [], returnType := none }, accessFlags := 2, code := none }
def k2c1 : Code := { maxStack := 4, maxLocals := 4, code := jdk_29_method_66_code, exceptionTable := #[], attributes := #[] }
def k2m1 : Method := { name := "max", desc := "(JJ)J", sig := { parameters := [.long, .long], returnType := some .long }, accessFlags := 9, code := some k2c1 }
/-- java/lang/Math -/
def k2 : Class := { plain "java/lang/Math" (some 0) with
  accessFlags := 49
  interfaces := #[]
  cf := some (fileOf pool2 1 #[.nestMembers #[98]] #[{ accessFlags := 2, nameIndex := 7, descriptorIndex := 8, attributes := #[] }, { accessFlags := 9, nameIndex := 198, descriptorIndex := 121, attributes := #[] }] 49 4 #[] #[{ accessFlags := 25, nameIndex := 354, descriptorIndex := 339, attributes := #[] }, { accessFlags := 25, nameIndex := 358, descriptorIndex := 339, attributes := #[] }, { accessFlags := 25, nameIndex := 361, descriptorIndex := 339, attributes := #[] }, { accessFlags := 26, nameIndex := 364, descriptorIndex := 339, attributes := #[] }, { accessFlags := 26, nameIndex := 365, descriptorIndex := 339, attributes := #[] }, { accessFlags := 26, nameIndex := 172, descriptorIndex := 173, attributes := #[] }, { accessFlags := 26, nameIndex := 176, descriptorIndex := 173, attributes := #[] }, { accessFlags := 8, nameIndex := 344, descriptorIndex := 339, attributes := #[] }, { accessFlags := 8, nameIndex := 338, descriptorIndex := 339, attributes := #[] }, { accessFlags := 4120, nameIndex := 245, descriptorIndex := 246, attributes := #[] }])
  fields := #[{ name := "E", type := .double, accessFlags := 25, slot := 0, constantValue := 0 }, { name := "PI", type := .double, accessFlags := 25, slot := 1, constantValue := 0 }, { name := "TAU", type := .double, accessFlags := 25, slot := 2, constantValue := 0 }, { name := "DEGREES_TO_RADIANS", type := .double, accessFlags := 26, slot := 3, constantValue := 0 }, { name := "RADIANS_TO_DEGREES", type := .double, accessFlags := 26, slot := 4, constantValue := 0 }, { name := "negativeZeroFloatBits", type := .long, accessFlags := 26, slot := 5, constantValue := 0 }, { name := "negativeZeroDoubleBits", type := .long, accessFlags := 26, slot := 6, constantValue := 0 }, { name := "twoToTheDoubleScaleUp", type := .double, accessFlags := 8, slot := 7, constantValue := 0 }, { name := "twoToTheDoubleScaleDown", type := .double, accessFlags := 8, slot := 8, constantValue := 0 }, { name := "$assertionsDisabled", type := .boolean, accessFlags := 4120, slot := 9, constantValue := 0 }]
  methods := #[k2m0, k2m1]
  instanceTypes := #[]
  staticTypes := #[.double, .double, .double, .double, .double, .long, .long, .double, .double, .boolean]
  resolved := Array.replicate 460 none
  statics := none }

def pool3 : Array CpInfo := pool [(2, .class_ 4), (1, u "java/lang/Object"), (3, .class_ 10), (1, u "com/example/lotwise/lotwise/Relaxation"), (0, u "members"), (0, u "[I"), (2, u "units"), (0, u "[J"), (2, u "rates"), (0, u "[D"), (2, u "most"), (0, u "Z"), (2, u "absent"), (0, u "I"), (2, u "whole"), (0, u "Lcom/example/lotwise/lotwise/Relaxation;"), (2, u "unitsBefore"), (17, u "owned"), (0, u "[[I"), (16, .methodref 8 72), (0, .nameAndType 73 74), (0, u "leastReaching"), (0, u "(D)D"), (0, .double 4472406533629990549), (3, .double 4503599627370496), (84, .class_ 166), (1, u "com/example/lotwise/lotwise/Relaxation$Piece"), (7, u "D"), (53, u "margins"), (0, u "[Lcom/example/lotwise/lotwise/Relaxation$Margin;"), (0, .class_ 231), (0, u "com/example/lotwise/lotwise/Relaxation$Margin"), (20, .class_ 253), (0, u "com/example/lotwise/lotwise/Relaxation$Outlook"), (15, u "SLACK"), (8, u "mayReach"), (0, u "(DD)Z")] 79

def k3c0 : Code := { maxStack := 4, maxLocals := 4, code := prog_35_method_4_code, exceptionTable := #[], attributes := #[] }
def k3m0 : Method := { name := "mayReach", desc := "(DD)Z", sig := { parameters := [.double, .double], returnType := some .boolean }, accessFlags := 8, code := some k3c0 }
def k3c1 : Code := { maxStack := 6, maxLocals := 2, code := prog_35_method_5_code, exceptionTable := #[], attributes := #[] }
def k3m1 : Method := { name := "leastReaching", desc := "(D)D", sig := { parameters := [.double], returnType := some .double }, accessFlags := 8, code := some k3c1 }
/-- com/example/lotwise/lotwise/Relaxation -/
def k3 : Class := { plain "com/example/lotwise/lotwise/Relaxation" (some 0) with
  accessFlags := 48
  interfaces := #[]
  cf := some (fileOf pool3 8 #[.nestMembers #[252, 230, 164]] #[{ accessFlags := 8, nameIndex := 278, descriptorIndex := 279, attributes := #[] }, { accessFlags := 8, nameIndex := 73, descriptorIndex := 74, attributes := #[] }] 48 2 #[] #[{ accessFlags := 24, nameIndex := 269, descriptorIndex := 174, attributes := #[] }, { accessFlags := 18, nameIndex := 11, descriptorIndex := 12, attributes := #[] }, { accessFlags := 18, nameIndex := 15, descriptorIndex := 16, attributes := #[] }, { accessFlags := 18, nameIndex := 19, descriptorIndex := 20, attributes := #[] }, { accessFlags := 18, nameIndex := 23, descriptorIndex := 24, attributes := #[] }, { accessFlags := 18, nameIndex := 53, descriptorIndex := 54, attributes := #[] }, { accessFlags := 18, nameIndex := 35, descriptorIndex := 16, attributes := #[] }, { accessFlags := 18, nameIndex := 27, descriptorIndex := 28, attributes := #[] }, { accessFlags := 18, nameIndex := 31, descriptorIndex := 32, attributes := #[] }, { accessFlags := 2, nameIndex := 228, descriptorIndex := 229, attributes := #[] }])
  fields := #[{ name := "SLACK", type := .double, accessFlags := 24, slot := 0, constantValue := 0 }, { name := "members", type := (.array .int), accessFlags := 18, slot := 0, constantValue := 0 }, { name := "units", type := (.array .long), accessFlags := 18, slot := 1, constantValue := 0 }, { name := "rates", type := (.array .double), accessFlags := 18, slot := 2, constantValue := 0 }, { name := "most", type := .boolean, accessFlags := 18, slot := 3, constantValue := 0 }, { name := "owned", type := (.array (.array .int)), accessFlags := 18, slot := 4, constantValue := 0 }, { name := "unitsBefore", type := (.array .long), accessFlags := 18, slot := 5, constantValue := 0 }, { name := "absent", type := .int, accessFlags := 18, slot := 6, constantValue := 0 }, { name := "whole", type := (.object "com/example/lotwise/lotwise/Relaxation"), accessFlags := 18, slot := 7, constantValue := 0 }, { name := "margins", type := (.array (.object "com/example/lotwise/lotwise/Relaxation$Margin")), accessFlags := 2, slot := 8, constantValue := 0 }]
  methods := #[k3m0, k3m1]
  instanceTypes := #[(.array .int), (.array .long), (.array .double), .boolean, (.array (.array .int)), (.array .long), .int, (.object "com/example/lotwise/lotwise/Relaxation"), (.array (.object "com/example/lotwise/lotwise/Relaxation$Margin"))]
  staticTypes := #[.double]
  resolved := Array.replicate 359 none
  statics := none }

def pool4 : Array CpInfo := pool [(1, u "java/lang/Cloneable"), (0, .class_ 1), (0, u "java/lang/Object"), (0, .class_ 3)] 3

/-- java/lang/Cloneable -/
def k4 : Class := { plain "java/lang/Cloneable" (some 0) with
  accessFlags := 1537
  interfaces := #[]
  cf := some (fileOf pool4 2 #[] #[] 1537 4 #[] #[])
  fields := #[]
  methods := #[]
  instanceTypes := #[]
  staticTypes := #[]
  resolved := Array.replicate 8 none
  statics := none }

def pool5 : Array CpInfo := pool [(1, u "java/io/Serializable"), (0, .class_ 1), (0, u "java/lang/Object"), (0, .class_ 3)] 3

/-- java/io/Serializable -/
def k5 : Class := { plain "java/io/Serializable" (some 0) with
  accessFlags := 1537
  interfaces := #[]
  cf := some (fileOf pool5 2 #[] #[] 1537 4 #[] #[])
  fields := #[]
  methods := #[]
  instanceTypes := #[]
  staticTypes := #[]
  resolved := Array.replicate 8 none
  statics := none }

/-- the primitive byte -/
def k6 : Class := { plain "byte" none with kind := .primitive 'B', accessFlags := 0x411 }
/-- [B -/
def k7 : Class := { plain "[B" (some 0) with kind := .array 6 .byte, interfaces := #[4, 5], accessFlags := 1041 }

/-- the primitive int -/
def k8 : Class := { plain "int" none with kind := .primitive 'I', accessFlags := 0x411 }
/-- [I -/
def k9 : Class := { plain "[I" (some 0) with kind := .array 8 .int, interfaces := #[4, 5], accessFlags := 1041 }

def heap : Heap := #[]
def classes : Array Class := #[k0, k1, k2, k3, k4, k5, k6, k7, k8, k9]
def interned : List (Array UInt16 × Addr) := []
def slotsUsed : Nat := 0
def theMethod : MethodId := ⟨1, 1⟩
def args0 : Array Value := #[.int 5, .int 3, .int 2]
def aboutOver (below : List Frame) : State where
  vm := { classes := classes, interned := interned.toArray }
  heap := heap
  slotsUsed := slotsUsed
  threads := #[{ frames := .invoking theMethod args0 :: below }]
def below0 : List Frame := [.native { method := ⟨0, 0⟩, args := #[] }]
def about1 : State := aboutOver below0
def p0 : Program := .bare "" "" ""
def e0 : Env := launch0.env 0 0 0
theorem w_frames : about1.frames = Frame.invoking theMethod args0 :: below0 := rfl
set_option maxRecDepth 65536 in
theorem w_args : argsFit about1.vm theMethod args0 = true := by decide +kernel
set_option maxRecDepth 65536 in
theorem w_heap : heapFits about1 = true := by decide +kernel
set_option maxRecDepth 65536 in
theorem w_runnable : about1.curStatus? = some .runnable := by decide +kernel
set_option maxRecDepth 65536 in
theorem w_alone : about1.alone = true := by decide +kernel
set_option maxRecDepth 65536 in
theorem w_named : about1.methodNamed? x = some theMethod := by decide +kernel
set_option maxRecDepth 65536 in
theorem w_hears : about1.hears theMethod below0 = true := by decide +kernel
set_option maxRecDepth 65536 in
theorem w_ripe : about1.ripe theMethod args0 below0 = true := by decide +kernel
theorem w_running : about1.status = .running := rfl
set_option maxRecDepth 65536 in
theorem w_room : about1.hasRoom e0.platform room_1 = true :=
  launch0.hasRoom_least _ room_1 (by decide +kernel) (by decide +kernel) (by decide +kernel) (by decide +kernel) (by decide +kernel) (by decide +kernel)
theorem allAtoms_all (ts : List Jvm.Cond) (a : Array Jvm.Value) (st : Jvm.State) : (allAtoms ts).before a st = ts.all (fun c => c.before a st) := by
  induction ts with
  | nil => rfl
  | cons c t ih =>
    show (Jvm.Cond.and c (allAtoms t)).before a st = _
    rw [Jvm.Cond.before_and, ih, List.all_cons]
def words1 : List Jvm.Cond := Jvm.Cond.code x code maxLocals ret :: tables_1
/-- a 'code' word, met by the world's own term for the bytes: nothing is compared byte by byte -/
theorem code_word {y : MethodName} {bytes : ByteArray} {mx : Nat} {rt : Option FieldType} {a : Array Value} {s : State} {m : MethodId} {meth : Method} {c : Code} (h1 : s.methodNamed? y = some m) (h2 : s.vm.method? m = some meth) (h3 : meth.code = some c) (h4 : c.code = bytes)
    (h5 : (c.maxLocals == mx && c.exceptionTable.isEmpty && decide (c.maxStack ≤ mostOperands) && decide (meth.sig.returnType = rt) && !meth.locks && decide (parseMethodDescriptor y.desc = some meth.sig)) = true) : (Jvm.Cond.code y bytes mx rt).before a s = true := by
  simp only [Bool.and_eq_true, beq_iff_eq, Bool.not_eq_true', decide_eq_true_eq] at h5
  obtain ⟨⟨⟨⟨⟨g1, g2⟩, g3⟩, g4⟩, g5⟩, g6⟩ := h5
  simp [Cond.before, Cond.holds, Cond.value, h1, h2, h3, h4, g1, g2, g3, g4, g5, g6]
def isCode : Jvm.Cond → Bool
  | .code _ _ _ _ => true
  | _ => false
theorem all_split {L : List Jvm.Cond} {P : Jvm.Cond → Bool} (h1 : L.all (fun c => isCode c || P c) = true) (h2 : ∀ c ∈ L.filter isCode, P c = true) : L.all P = true := by
  refine List.all_eq_true.mpr fun c hc => ?_
  have h := List.all_eq_true.mp h1 c hc
  rcases Bool.eq_false_or_eq_true (isCode c) with hi | hi
  · exact h2 c (List.mem_filter.mpr ⟨hc, hi⟩)
  · simpa [hi] using h
set_option maxRecDepth 65536 in
theorem w_c0 : (Jvm.Cond.code x code maxLocals ret).before args0 about1 = true := code_word (m := ⟨1, 1⟩) (meth := k1m1) (c := k1c1) (by decide +kernel) rfl rfl rfl (by decide +kernel)
set_option maxRecDepth 65536 in
theorem w_c1 : (Jvm.Cond.code ({ cls := "java/lang/Math", name := "max", desc := "(JJ)J" } : Jvm.MethodName) jdk_29_method_66_code (4 : Nat) (Option.some Jvm.ClassFile.FieldType.long)).before args0 about1 = true := code_word (m := ⟨2, 1⟩) (meth := k2m1) (c := k2c1) (by decide +kernel) rfl rfl rfl (by decide +kernel)
set_option maxRecDepth 65536 in
theorem w_c2 : (Jvm.Cond.code ({ cls := "com/example/lotwise/lotwise/Relaxation", name := "mayReach", desc := "(DD)Z" } : Jvm.MethodName) prog_35_method_4_code (4 : Nat) (Option.some Jvm.ClassFile.FieldType.boolean)).before args0 about1 = true := code_word (m := ⟨3, 0⟩) (meth := k3m0) (c := k3c0) (by decide +kernel) rfl rfl rfl (by decide +kernel)
set_option maxRecDepth 65536 in
theorem w_c3 : (Jvm.Cond.code ({ cls := "com/example/lotwise/lotwise/Relaxation", name := "leastReaching", desc := "(D)D" } : Jvm.MethodName) prog_35_method_5_code (2 : Nat) (Option.some Jvm.ClassFile.FieldType.double)).before args0 about1 = true := code_word (m := ⟨3, 1⟩) (meth := k3m1) (c := k3c1) (by decide +kernel) rfl rfl rfl (by decide +kernel)
def codes1 : List Jvm.Cond := [Jvm.Cond.code x code maxLocals ret, Jvm.Cond.code ({ cls := "java/lang/Math", name := "max", desc := "(JJ)J" } : Jvm.MethodName) jdk_29_method_66_code (4 : Nat) (Option.some Jvm.ClassFile.FieldType.long), Jvm.Cond.code ({ cls := "com/example/lotwise/lotwise/Relaxation", name := "mayReach", desc := "(DD)Z" } : Jvm.MethodName) prog_35_method_4_code (4 : Nat) (Option.some Jvm.ClassFile.FieldType.boolean), Jvm.Cond.code ({ cls := "com/example/lotwise/lotwise/Relaxation", name := "leastReaching", desc := "(D)D" } : Jvm.MethodName) prog_35_method_5_code (2 : Nat) (Option.some Jvm.ClassFile.FieldType.double)]
set_option maxRecDepth 65536 in
theorem codes_eq : words1.filter isCode = codes1 := rfl
theorem w_codes : ∀ c ∈ words1.filter isCode, c.before args0 about1 = true := by
  rw [codes_eq]
  intro c hc
  simp only [codes1, List.mem_cons, List.not_mem_nil, or_false] at hc
  rcases hc with rfl | rfl | rfl | rfl
  · exact w_c0
  · exact w_c1
  · exact w_c2
  · exact w_c3
set_option maxRecDepth 65536 in
theorem w_t1 : words1.all (fun c => isCode c || c.before args0 about1) = true := by decide +kernel
theorem w_tables : (allAtoms (Jvm.Cond.code x code maxLocals ret :: tables_1)).before args0 about1 = true := by
  rw [allAtoms_all]
  show words1.all (fun c => c.before args0 about1) = true
  refine all_split ?_ w_codes
  rw [w_t1]
set_option maxRecDepth 65536 in
theorem w_case : (Jvm.Cond.and given_1 narrow_1).before args0 about1 = true := by decide +kernel
theorem w_applies : (headSpec (Jvm.Cond.code x code maxLocals ret :: tables_1) room_1).applies x e0.platform about1 = true :=
  (Spec.applies_iff w_frames).mpr ⟨w_running, w_runnable, w_alone, w_named, w_hears, w_ripe, w_room, w_tables⟩
theorem atStart : AtStart classFile x code maxLocals ret World_1 tables_1 room_1 Calls_1 rest_1 Pre_1 launch0 p0 e0 about1 theMethod args0 below0 :=
  ⟨lists_1, trivial, launch0.admits_env _ _ _, launch0.least_env, fairChoices_fair.cas, fairChoices_fair.clock, w_frames, w_args, w_heap, w_applies, trivial, trivial, w_case⟩
end start1
theorem witness_1 : WitnessClaimed_1 := ⟨start1.p0, start1.e0, start1.about1, start1.theMethod, start1.args0, start1.below0, start1.atStart⟩
end Jvm.Pilot.@@N@@
