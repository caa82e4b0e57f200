import JvmDerived
import JvmDerived.Pilot.@@N@@Statement
import JvmDerived.Pilot.@@N@@Code
set_option linter.unusedVariables false
set_option linter.unusedSimpArgs false
namespace Jvm.RoadKit
open Sem ClassFile Op Lib Jvm.Stand Jvm.Free Jvm.LawKit
section New
variable {p : Program} {l : Launch} {e : Env} {R : Room} {s : State} {m : MethodId} {args : Array Value} {below : List Frame} {meth : Method} {c : Code} {T : State} {locs : List Loc} {cells slots : Nat}
theorem retI (X : Stand p l e R s m args below meth c T locs cells slots) (hx : p.tables.exec = Jvm.exec) {pc : Nat} {Ls : Array Slot} {z : Int32} {rest : List Value} (hret : meth.sig.returnType = some .int) (hd : decode c.code pc = .ok (.ireturn, 1)) {fs : List Frame}
    (hl : ∀ (f : JFrame) (acts : List Action), f.method = m → f.locked = none → f.entered = [] → (doReturn e (T.setTop f) acts (some (.int z))).1 = T.setFrames fs) : Steps p.tables e below (T.setTop (mkF m pc Ls (.int z :: rest))) (T.setFrames fs) := by
  have hm' : T.vm.method? m = some meth := X.method'
  have hn : narrow .int (.int z) = .int z := rfl
  show Steps p.tables e below (T.setTop { method := m, pc := pc, locals := Ls, stack := _ :: rest, locked := none }) _
  jvm_step X.here [X.here.top, hx, hd, hm', hret, hn]
  first | (intro acts; rw [hl _ acts rfl rfl rfl]) | rw [hl _ _ rfl rfl rfl]
  exact Steps.refl _
theorem lremM {g : JFrame} {target : State} (X : Stand p l e R s m args below meth c T locs cells slots) (hx : p.tables.exec = Jvm.exec) (hg : g.method = m) {x y : Int64} {rest : List Value} (hd : decode c.code g.pc = .ok (.lrem, 1)) (hs : g.stack = .long y :: .long x :: rest) (hy : y ≠ 0)
    (hr : Steps p.tables e below (T.setTop { g with pc := g.pc + 1, stack := .long (x % y) :: rest }) target) : Steps p.tables e below (T.setTop g) target := by
  have q : x - x / y * y = x % y := lrem_mod x y
  exact XS.lrem X.here hx hg hd hs hy (by rw [q]; exact hr)
/-- from the state t the invocation ends as Q says -/
def Done (p : Program) (e : Env) (below : List Frame) (Q : Outcome → State → Prop) (t : State) : Prop := ∃ s₂ o, Steps p.tables e below t s₂ ∧ s₂.status = .running ∧ Ended s₂ below o ∧ Q o s₂
theorem Done.of {p : Program} {e : Env} {below : List Frame} {Q : Outcome → State → Prop} {t t' : State} (h : Done p e below Q t') (k : ∀ target, Steps p.tables e below t' target → Steps p.tables e below t target) : Done p e below Q t := by
  obtain ⟨s₂, o, h1, h2⟩ := h
  exact ⟨s₂, o, k _ h1, h2⟩
end New
end Jvm.RoadKit
namespace Jvm.Pilot.@@N@@
open Jvm Jvm.ClassFile Sem Op Lib Jvm.Free Jvm.Stand Jvm.LawKit Jvm.RoadKit Bundle Jvm.Pilot.@@N@@.Jvm.D

def own_m (x : Int64) : Int64 := if (0 : Int64) < x then (x - (1 : Int64)) else (-(x + (1 : Int64)))
def own_a (x : Int64) : Int64 := if x < (0 : Int64) then (-x) else x
theorem own_k0 : (0 : Int64).toInt = 0 := by decide
theorem own_k1 : (1 : Int64).toInt = 1 := by decide
theorem own_mi (x : Int64) (h : ¬ x = (0 : Int64)) : (0 < x.toInt → (own_m x).toInt = x.toInt - 1) ∧ (x.toInt < 0 → (own_m x).toInt = -x.toInt - 1) := by
  have h1 := c_lsub x (1 : Int64)
  have h2 := c_ladd x (1 : Int64)
  have h3 := c_lneg (x + (1 : Int64))
  have r1 := rng64 x
  have r2 := rng64 (x - (1 : Int64))
  have r3 := rng64 (x + (1 : Int64))
  have r4 := rng64 (-(x + (1 : Int64)))
  rw [own_k1] at h1 h2
  unfold own_m
  simp only [Int64.lt_iff_toInt_lt, own_k0]
  refine ⟨fun q => ?_, fun q => ?_⟩
  · rw [if_pos q]; omega
  · rw [if_neg (by omega)]; omega
theorem own_ne {x : Int64} (h : ¬ x = (0 : Int64)) : x.toInt ≠ 0 := fun q => h (Int64.toInt_inj.mp (by rw [q]; rfl))
theorem own_ex {x : Int64} (h : ¬ x = (0 : Int64)) : ¬ own_m x < (0 : Int64) ∧ ((own_m x + (1 : Int64)) = x ∨ (own_m x + (1 : Int64)) = (-x)) := by
  have h0 := own_ne h
  have h1 := own_mi x h
  have h2 := c_ladd (own_m x) (1 : Int64)
  have h3 := c_lneg x
  have r1 := rng64 x
  have r2 := rng64 (own_m x + (1 : Int64))
  have r3 := rng64 (-x)
  have r4 := rng64 (own_m x)
  rw [own_k1] at h2
  simp only [Int64.lt_iff_toInt_lt, own_k0, ← Int64.toInt_inj]
  by_cases q : 0 < x.toInt
  · have := h1.1 q
    refine ⟨by omega, Or.inl (by omega)⟩
  · have := h1.2 (by omega)
    refine ⟨by omega, Or.inr (by omega)⟩
theorem own_bd {a : Int64} (x : Int64) (h : ¬ a = (0 : Int64)) : ¬ own_m a < own_a (x % a) := by
  have h0 := own_ne h
  have h1 := own_mi a h
  have h2 : (x % a).toInt = x.toInt.tmod a.toInt := Int64.toInt_mod x a
  have h3 : (x.toInt.tmod a.toInt).natAbs = x.toInt.natAbs % a.toInt.natAbs := Int.natAbs_tmod ..
  have h4 : x.toInt.natAbs % a.toInt.natAbs < a.toInt.natAbs := Nat.mod_lt _ (by omega)
  have h5 := c_lneg (x % a)
  have r1 := rng64 a
  have r2 := rng64 (x % a)
  have r3 := rng64 (-(x % a))
  have r4 := rng64 (own_m a)
  rw [← h3, ← h2] at h4
  simp only [Int64.lt_iff_toInt_lt]
  have h6 : (own_a (x % a)).toInt = (x % a).toInt.natAbs := by
    unfold own_a
    simp only [Int64.lt_iff_toInt_lt, own_k0]
    split <;> omega
  rw [h6]
  by_cases q : 0 < a.toInt
  · have := h1.1 q
    omega
  · have := h1.2 (by omega)
    omega
theorem d1_0 : decode prog_69_method_8_code 0 = .ok (.lload_n 0, 1) := by decide +kernel
theorem d1_1 : decode prog_69_method_8_code 1 = .ok (.lconst 0, 1) := by decide +kernel
theorem d1_2 : decode prog_69_method_8_code 2 = .ok (.lcmp, 1) := by decide +kernel
theorem d1_3 : decode prog_69_method_8_code 3 = .ok (.ifCond .le 9, 3) := by decide +kernel
theorem d1_6 : decode prog_69_method_8_code 6 = .ok (.lload_n 0, 1) := by decide +kernel
theorem d1_7 : decode prog_69_method_8_code 7 = .ok (.lconst 1, 1) := by decide +kernel
theorem d1_8 : decode prog_69_method_8_code 8 = .ok (.lsub, 1) := by decide +kernel
theorem d1_9 : decode prog_69_method_8_code 9 = .ok (.goto 7, 3) := by decide +kernel
theorem d1_12 : decode prog_69_method_8_code 12 = .ok (.lload_n 0, 1) := by decide +kernel
theorem d1_13 : decode prog_69_method_8_code 13 = .ok (.lconst 1, 1) := by decide +kernel
theorem d1_14 : decode prog_69_method_8_code 14 = .ok (.ladd, 1) := by decide +kernel
theorem d1_15 : decode prog_69_method_8_code 15 = .ok (.lneg, 1) := by decide +kernel
theorem d1_16 : decode prog_69_method_8_code 16 = .ok (.lreturn, 1) := by decide +kernel
theorem pn_1 : plainName "com/example/sievecraft/sievecraft/kernel/ExactMath" = true := by first | (simp [plainName, overriddenIn]; done) | decide +kernel
theorem ef_1 (m : MethodId) (q0 : Int64)  : entryFrame m #[(.long q0)] 2 = mkF m 0 #[.val (.long q0), .second] [] := by first | (simp [entryFrame, mkF, argsToLocals, Value.category]; done) | rfl
def Q1 (Z : State) (q0 : Int64) (h0 : Heap) (n0 : Nat) (v : Option Value) (h : Heap) (L : List Loc) : Prop := v = some (.long (own_m q0)) ∧ Fr n0 L ∧ h = h0
set_option maxRecDepth 65536 in
set_option maxHeartbeats 40000000 in
theorem rm1 (l : Launch) (Z : State) (a0 : Array Value) (hw : ∀ d ∈ tables_1, d.before a0 Z = true) (ws : List Jvm.Cond) (q0 : Int64) (h0 : Heap) (n0 : Nat) (Z0 : n0 ≤ h0.size) :
    MetFree l (⟨"com/example/sievecraft/sievecraft/kernel/ExactMath", "magnitudeLessOne", "(J)J"⟩ : MethodName) (head1 (Jvm.Cond.code (⟨"com/example/sievecraft/sievecraft/kernel/ExactMath", "magnitudeLessOne", "(J)J"⟩ : MethodName) prog_69_method_8_code 2 (some .long) :: ws) ({ frames := 0, cells := 0, slots := 0, locals := 0 } : Room)) (fun a U => a = #[(.long q0)] ∧ Z.Warmed39 U.vm ∧ U.heap = h0) (fun _ _ _ _ _ => True) (fun _ U o U' => ∃ v L, o = .returned v ∧ Q1 Z q0 h0 n0 v U'.heap L ∧ FrameEnd U o U' L ({ frames := 0, cells := 0, slots := 0, locals := 0 } : Room).cells ({ frames := 0, cells := 0, slots := 0, locals := 0 } : Room).slots) := by
  refine MetFree.of_bodySF (plainFor_of_name pn_1) hisR ?_
  intro p e s m args below meth c s₁ Bd hml0 hP hK
  obtain ⟨rfl, hZ, hh⟩ := hP
  have hx := Bd.exec
  have hby := Bd.bytes
  have hml : c.maxLocals = 2 := hml0
  have hown : s.vm.findClass "com/example/sievecraft/sievecraft/kernel/ExactMath" = some m.cls := findClass_of_methodNamed Bd.named
  have hnm := (name_of_methodNamed Bd.named Bd.method).1
  have X0 : Stand p l e ({ frames := 0, cells := 0, slots := 0, locals := 0 } : Room) s m #[(.long q0)] below meth c s₁ [] 0 0 := Stand.of_body Bd
  have e0 : s₁.heap = h0 := by rw [← hh, Bd.state]; rfl
  have N0 := Fr.nil n0
  have pre0 : ∀ t, Steps p.tables e below (s₁.setTop (mkF m 0 #[.val (.long q0), .second] [])) t → Steps p.tables e below (s₁.setTop (entryFrame m #[(.long q0)] 2)) t := fun t k => castTop (ef_1 m q0) k
  show Done p e below _ _
  refine Done.of ?_ pre0
  have J3_1 : ∀ wj : Int64, wj = (if (0 : Int64) < q0 then (q0 - (1 : Int64)) else (-(q0 + (1 : Int64)))) → ∀ target, Steps p.tables e below (s₁.setTop (mkF m 16 #[.val (.long q0), .second] [(.long wj)])) target → Steps p.tables e below (s₁.setTop (mkF m 3 #[.val (.long q0), .second] [(.int (lcmpW q0 (0 : Int64)))])) target := by
    intro wj hw0 target kt
    by_cases hj3 : (0 : Int64) < q0
    · rw [if_pos hj3] at hw0
      show Steps p.tables e below (s₁.setTop (mkF m 3 #[.val (.long q0), .second] [(.int (lcmpW q0 (0 : Int64)))])) _
      refine XS.ifNo X0.here hx rfl (hb hby d1_3) rfl ((if0 _ _).trans (tlt ((lw_gt q0 (0 : Int64)).mpr hj3)).2.2.2) ?_
      show Steps p.tables e below (s₁.setTop (mkF m 6 #[.val (.long q0), .second] [])) _
      refine XS.lloadN X0.here hx rfl (hb hby d1_6) rfl ?_
      show Steps p.tables e below (s₁.setTop (mkF m 7 #[.val (.long q0), .second] [(.long q0)])) _
      refine XS.lconst X0.here hx rfl (hb hby d1_7) ?_
      show Steps p.tables e below (s₁.setTop (mkF m 8 #[.val (.long q0), .second] [(.long (1 : Int64)), (.long q0)])) _
      refine XS.lsub X0.here hx rfl (hb hby d1_8) rfl ?_
      show Steps p.tables e below (s₁.setTop (mkF m 9 #[.val (.long q0), .second] [(.long (q0 - (1 : Int64)))])) _
      refine XS.goto X0.here hx rfl (pc0 := 9) (pc' := 16) rfl (hb hby d1_9) (by decide) (by decide) ?_
      rw [hw0] at kt
      exact kt
    · rw [if_neg hj3] at hw0
      show Steps p.tables e below (s₁.setTop (mkF m 3 #[.val (.long q0), .second] [(.int (lcmpW q0 (0 : Int64)))])) _
      refine XS.ifYes X0.here hx rfl (pc0 := 3) (pc' := 12) rfl (hb hby d1_3) rfl ((if0 _ _).trans (flt (fun q => hj3 ((lw_gt q0 (0 : Int64)).mp q))).2.2.2) (by decide) (by decide) ?_
      show Steps p.tables e below (s₁.setTop (mkF m 12 #[.val (.long q0), .second] [])) _
      refine XS.lloadN X0.here hx rfl (hb hby d1_12) rfl ?_
      show Steps p.tables e below (s₁.setTop (mkF m 13 #[.val (.long q0), .second] [(.long q0)])) _
      refine XS.lconst X0.here hx rfl (hb hby d1_13) ?_
      show Steps p.tables e below (s₁.setTop (mkF m 14 #[.val (.long q0), .second] [(.long (1 : Int64)), (.long q0)])) _
      refine XS.ladd X0.here hx rfl (hb hby d1_14) rfl ?_
      show Steps p.tables e below (s₁.setTop (mkF m 15 #[.val (.long q0), .second] [(.long (q0 + (1 : Int64)))])) _
      refine XS.lneg X0.here hx rfl (hb hby d1_15) rfl ?_
      rw [hw0] at kt
      exact kt
  obtain ⟨fs, hr, hrun, hended, hW, hsame⟩ := X0.leave (v := some (.long (if (0 : Int64) < q0 then (q0 - (1 : Int64)) else (-(q0 + (1 : Int64)))))) (fun h => by rw [Bd.returns] at h; cases h)
  refine ⟨_, _, ?_, hrun, hended, _, _, rfl, ?_, ⟨_, rfl⟩, hW, hsame.mono (by decide) (by decide)⟩
  · show Steps p.tables e below (s₁.setTop (mkF m 0 #[.val (.long q0), .second] [])) _
    refine XS.lloadN X0.here hx rfl (hb hby d1_0) rfl ?_
    show Steps p.tables e below (s₁.setTop (mkF m 1 #[.val (.long q0), .second] [(.long q0)])) _
    refine XS.lconst X0.here hx rfl (hb hby d1_1) ?_
    show Steps p.tables e below (s₁.setTop (mkF m 2 #[.val (.long q0), .second] [(.long (0 : Int64)), (.long q0)])) _
    refine XS.lcmp X0.here hx rfl (hb hby d1_2) rfl ?_
    show Steps p.tables e below (s₁.setTop (mkF m 3 #[.val (.long q0), .second] [(.int (lcmpW q0 (0 : Int64)))])) _
    refine J3_1 _ rfl _ ?_
    show Steps p.tables e below (s₁.setTop (mkF m 16 #[.val (.long q0), .second] [(.long (if (0 : Int64) < q0 then (q0 - (1 : Int64)) else (-(q0 + (1 : Int64)))))])) _
    jvm_step X0.here [X0.here.top, hx, (hb hby d1_16), X0.method', Bd.returns, narrow]
    first | (intro acts; rw [hr _ acts rfl rfl rfl]) | rw [hr _ _ rfl rfl rfl]
    exact Steps.refl _
  · show Q1 Z q0  h0 n0 _ s₁.heap _
    rw [e0]
    refine ⟨?_, N0, rfl⟩
    rfl
theorem d2_0 : decode jdk_29_method_61_code 0 = .ok (.lload_n 0, 1) := by decide +kernel
theorem d2_1 : decode jdk_29_method_61_code 1 = .ok (.lconst 0, 1) := by decide +kernel
theorem d2_2 : decode jdk_29_method_61_code 2 = .ok (.lcmp, 1) := by decide +kernel
theorem d2_3 : decode jdk_29_method_61_code 3 = .ok (.ifCond .ge 8, 3) := by decide +kernel
theorem d2_6 : decode jdk_29_method_61_code 6 = .ok (.lload_n 0, 1) := by decide +kernel
theorem d2_7 : decode jdk_29_method_61_code 7 = .ok (.lneg, 1) := by decide +kernel
theorem d2_8 : decode jdk_29_method_61_code 8 = .ok (.goto 4, 3) := by decide +kernel
theorem d2_11 : decode jdk_29_method_61_code 11 = .ok (.lload_n 0, 1) := by decide +kernel
theorem d2_12 : decode jdk_29_method_61_code 12 = .ok (.lreturn, 1) := by decide +kernel
theorem ef_2 (m : MethodId) (q0 : Int64)  : entryFrame m #[(.long q0)] 2 = mkF m 0 #[.val (.long q0), .second] [] := by first | (simp [entryFrame, mkF, argsToLocals, Value.category]; done) | rfl
def Q2 (Z : State) (q0 : Int64) (h0 : Heap) (n0 : Nat) (v : Option Value) (h : Heap) (L : List Loc) : Prop := v = some (.long (own_a q0)) ∧ Fr n0 L ∧ h = h0
set_option maxRecDepth 65536 in
set_option maxHeartbeats 40000000 in
theorem rm2 (l : Launch) (Z : State) (a0 : Array Value) (hw : ∀ d ∈ tables_1, d.before a0 Z = true) (ws : List Jvm.Cond) (q0 : Int64) (h0 : Heap) (n0 : Nat) (Z0 : n0 ≤ h0.size) :
    MetFree l (⟨"java/lang/Math", "abs", "(J)J"⟩ : MethodName) (head1 (Jvm.Cond.code (⟨"java/lang/Math", "abs", "(J)J"⟩ : MethodName) jdk_29_method_61_code 2 (some .long) :: ws) ({ frames := 0, cells := 0, slots := 0, locals := 0 } : Room)) (fun a U => a = #[(.long q0)] ∧ Z.Warmed39 U.vm ∧ U.heap = h0) (fun _ _ _ _ _ => True) (fun _ U o U' => ∃ v L, o = .returned v ∧ Q2 Z q0 h0 n0 v U'.heap L ∧ FrameEnd U o U' L ({ frames := 0, cells := 0, slots := 0, locals := 0 } : Room).cells ({ frames := 0, cells := 0, slots := 0, locals := 0 } : Room).slots) := by
  refine MetFree.of_bodySF (Jvm.Free.JP.mathPlain rfl (by decide +kernel)) hisR ?_
  intro p e s m args below meth c s₁ Bd hml0 hP hK
  obtain ⟨rfl, hZ, hh⟩ := hP
  have hx := Bd.exec
  have hby := Bd.bytes
  have hml : c.maxLocals = 2 := hml0
  have hown : s.vm.findClass "java/lang/Math" = some m.cls := findClass_of_methodNamed Bd.named
  have hnm := (name_of_methodNamed Bd.named Bd.method).1
  have X0 : Stand p l e ({ frames := 0, cells := 0, slots := 0, locals := 0 } : Room) s m #[(.long q0)] below meth c s₁ [] 0 0 := Stand.of_body Bd
  have e0 : s₁.heap = h0 := by rw [← hh, Bd.state]; rfl
  have N0 := Fr.nil n0
  have pre0 : ∀ t, Steps p.tables e below (s₁.setTop (mkF m 0 #[.val (.long q0), .second] [])) t → Steps p.tables e below (s₁.setTop (entryFrame m #[(.long q0)] 2)) t := fun t k => castTop (ef_2 m q0) k
  show Done p e below _ _
  refine Done.of ?_ pre0
  have J3_1 : ∀ wj : Int64, wj = (if q0 < (0 : Int64) then (-q0) else q0) → ∀ target, Steps p.tables e below (s₁.setTop (mkF m 12 #[.val (.long q0), .second] [(.long wj)])) target → Steps p.tables e below (s₁.setTop (mkF m 3 #[.val (.long q0), .second] [(.int (lcmpW q0 (0 : Int64)))])) target := by
    intro wj hw0 target kt
    by_cases hj3 : q0 < (0 : Int64)
    · rw [if_pos hj3] at hw0
      show Steps p.tables e below (s₁.setTop (mkF m 3 #[.val (.long q0), .second] [(.int (lcmpW q0 (0 : Int64)))])) _
      refine XS.ifNo X0.here hx rfl (hb hby d2_3) rfl ((if0 _ _).trans (tlt ((lw_lt q0 (0 : Int64)).mpr hj3)).2.1) ?_
      show Steps p.tables e below (s₁.setTop (mkF m 6 #[.val (.long q0), .second] [])) _
      refine XS.lloadN X0.here hx rfl (hb hby d2_6) rfl ?_
      show Steps p.tables e below (s₁.setTop (mkF m 7 #[.val (.long q0), .second] [(.long q0)])) _
      refine XS.lneg X0.here hx rfl (hb hby d2_7) rfl ?_
      show Steps p.tables e below (s₁.setTop (mkF m 8 #[.val (.long q0), .second] [(.long (-q0))])) _
      refine XS.goto X0.here hx rfl (pc0 := 8) (pc' := 12) rfl (hb hby d2_8) (by decide) (by decide) ?_
      rw [hw0] at kt
      exact kt
    · rw [if_neg hj3] at hw0
      show Steps p.tables e below (s₁.setTop (mkF m 3 #[.val (.long q0), .second] [(.int (lcmpW q0 (0 : Int64)))])) _
      refine XS.ifYes X0.here hx rfl (pc0 := 3) (pc' := 11) rfl (hb hby d2_3) rfl ((if0 _ _).trans (flt (fun q => hj3 ((lw_lt q0 (0 : Int64)).mp q))).2.1) (by decide) (by decide) ?_
      show Steps p.tables e below (s₁.setTop (mkF m 11 #[.val (.long q0), .second] [])) _
      refine XS.lloadN X0.here hx rfl (hb hby d2_11) rfl ?_
      rw [hw0] at kt
      exact kt
  obtain ⟨fs, hr, hrun, hended, hW, hsame⟩ := X0.leave (v := some (.long (if q0 < (0 : Int64) then (-q0) else q0))) (fun h => by rw [Bd.returns] at h; cases h)
  refine ⟨_, _, ?_, hrun, hended, _, _, rfl, ?_, ⟨_, rfl⟩, hW, hsame.mono (by decide) (by decide)⟩
  · show Steps p.tables e below (s₁.setTop (mkF m 0 #[.val (.long q0), .second] [])) _
    refine XS.lloadN X0.here hx rfl (hb hby d2_0) rfl ?_
    show Steps p.tables e below (s₁.setTop (mkF m 1 #[.val (.long q0), .second] [(.long q0)])) _
    refine XS.lconst X0.here hx rfl (hb hby d2_1) ?_
    show Steps p.tables e below (s₁.setTop (mkF m 2 #[.val (.long q0), .second] [(.long (0 : Int64)), (.long q0)])) _
    refine XS.lcmp X0.here hx rfl (hb hby d2_2) rfl ?_
    show Steps p.tables e below (s₁.setTop (mkF m 3 #[.val (.long q0), .second] [(.int (lcmpW q0 (0 : Int64)))])) _
    refine J3_1 _ rfl _ ?_
    show Steps p.tables e below (s₁.setTop (mkF m 12 #[.val (.long q0), .second] [(.long (if q0 < (0 : Int64) then (-q0) else q0))])) _
    jvm_step X0.here [X0.here.top, hx, (hb hby d2_12), X0.method', Bd.returns, narrow]
    first | (intro acts; rw [hr _ acts rfl rfl rfl]) | rw [hr _ _ rfl rfl rfl]
    exact Steps.refl _
  · show Q2 Z q0  h0 n0 _ s₁.heap _
    rw [e0]
    refine ⟨?_, N0, rfl⟩
    rfl
theorem pn_0 : plainName "com/example/sievecraft/sievecraft/kernel/ExactMathMagnitudeLessOnePinLaw" = true := by first | (simp [plainName, overriddenIn]; done) | decide +kernel
theorem pd_0 : parseMethodDescriptor "(J)J" = some ⟨[.long], some .long⟩ := by decide +kernel
theorem ef_0 (m : MethodId) (q0 : Int64) (q1 : Int64)  : entryFrame m #[(.long q0), (.long q1)] maxLocals = mkF m 0 #[.val (.long q0), .second, .val (.long q1), .second, .unset, .unset, .unset, .unset, .unset, .unset] [] := by first | (simp [entryFrame, mkF, argsToLocals, Value.category, maxLocals]; done) | rfl
def Q0 (Z : State) (q0 : Int64) (q1 : Int64) (h0 : Heap) (n0 : Nat) (v : Option Value) (h : Heap) (L : List Loc) : Prop := v = some (.int 1) ∧ Fr n0 L
set_option maxRecDepth 65536 in
set_option maxHeartbeats 40000000 in
theorem rm0 (l : Launch) (Z : State) (a0 : Array Value) (hw : ∀ d ∈ tables_1, d.before a0 Z = true) (ws : List Jvm.Cond) (q0 : Int64) (q1 : Int64) (h0 : Heap) (n0 : Nat) (Z0 : n0 ≤ h0.size) :
    MetFree l x (head1 (Jvm.Cond.code x code maxLocals ret :: ws) room_1) (fun a U => a = #[(.long q0), (.long q1)] ∧ Z.Warmed39 U.vm ∧ U.heap = h0) (fun _ _ _ _ _ => True) (fun _ U o U' => ∃ v L, o = .returned v ∧ Q0 Z q0 q1 h0 n0 v U'.heap L ∧ FrameEnd U o U' L room_1.cells room_1.slots) := by
  refine MetFree.of_bodySF (plainFor_of_name pn_0) hisR ?_
  intro p e s m args below meth c s₁ Bd hml0 hP hK
  obtain ⟨rfl, hZ, hh⟩ := hP
  have hx := Bd.exec
  have hby := Bd.bytes
  have hml : c.maxLocals = 10 := hml0
  have hown : s.vm.findClass "com/example/sievecraft/sievecraft/kernel/ExactMathMagnitudeLessOnePinLaw" = some m.cls := findClass_of_methodNamed Bd.named
  have hnm := (name_of_methodNamed Bd.named Bd.method).1
  have X0 : Stand p l e room_1 s m #[(.long q0), (.long q1)] below meth c s₁ [] 0 0 := Stand.of_body Bd
  have e0 : s₁.heap = h0 := by rw [← hh, Bd.state]; rfl
  have N0 := Fr.nil n0
  have pre0 : ∀ t, Steps p.tables e below (s₁.setTop (mkF m 0 #[.val (.long q0), .second, .val (.long q1), .second, .unset, .unset, .unset, .unset, .unset, .unset] [])) t → Steps p.tables e below (s₁.setTop (entryFrame m #[(.long q0), (.long q1)] maxLocals)) t := fun t k => castTop (ef_0 m q0 q1) k
  show Done p e below _ _
  refine Done.of ?_ pre0
  have K1 : ∀ target, Steps p.tables e below (s₁.setTop (mkF m 3 #[.val (.long q0), .second, .val (.long q1), .second, .unset, .unset, .unset, .unset, .unset, .unset] [(.int (lcmpW q0 (0 : Int64)))])) target → Steps p.tables e below (s₁.setTop (mkF m 0 #[.val (.long q0), .second, .val (.long q1), .second, .unset, .unset, .unset, .unset, .unset, .unset] [])) target := by
    intro target kt
    show Steps p.tables e below (s₁.setTop (mkF m 0 #[.val (.long q0), .second, .val (.long q1), .second, .unset, .unset, .unset, .unset, .unset, .unset] [])) _
    refine XS.lloadN X0.here hx rfl (hb hby at_0) rfl ?_
    show Steps p.tables e below (s₁.setTop (mkF m 1 #[.val (.long q0), .second, .val (.long q1), .second, .unset, .unset, .unset, .unset, .unset, .unset] [(.long q0)])) _
    refine XS.lconst X0.here hx rfl (hb hby at_1) ?_
    show Steps p.tables e below (s₁.setTop (mkF m 2 #[.val (.long q0), .second, .val (.long q1), .second, .unset, .unset, .unset, .unset, .unset, .unset] [(.long (0 : Int64)), (.long q0)])) _
    refine XS.lcmp X0.here hx rfl (hb hby at_2) rfl ?_
    exact kt
  refine Done.of ?_ K1
  by_cases hc3_2 : q0 = (0 : Int64)
  · have K : ∀ target, Steps p.tables e below (s₁.setTop (mkF m 6 #[.val (.long q0), .second, .val (.long q1), .second, .unset, .unset, .unset, .unset, .unset, .unset] [])) target → Steps p.tables e below (s₁.setTop (mkF m 3 #[.val (.long q0), .second, .val (.long q1), .second, .unset, .unset, .unset, .unset, .unset, .unset] [(.int (lcmpW q0 (0 : Int64)))])) target := by
      intro target kt
      refine XS.ifNo X0.here hx rfl (hb hby at_3) rfl ((if0 _ _).trans (teq ((lw_eq q0 (0 : Int64)).mpr hc3_2)).2) ?_
      exact kt
    refine Done.of ?_ K
    obtain ⟨fs, hr, hrun, hended, hW, hsame⟩ := X0.leave (v := some (.int (1 : Int32))) (fun h => by rw [Bd.returns] at h; cases h)
    refine ⟨_, _, ?_, hrun, hended, _, _, rfl, ?_, ⟨_, rfl⟩, hW, hsame.mono (by decide) (by decide)⟩
    · show Steps p.tables e below (s₁.setTop (mkF m 6 #[.val (.long q0), .second, .val (.long q1), .second, .unset, .unset, .unset, .unset, .unset, .unset] [])) _
      refine XS.iconst X0.here hx rfl (hb hby at_6) ?_
      show Steps p.tables e below (s₁.setTop (mkF m 7 #[.val (.long q0), .second, .val (.long q1), .second, .unset, .unset, .unset, .unset, .unset, .unset] [(.int (1 : Int32))])) _
      exact retN X0 hx (t := .boolean) Bd.returns (by simp) (hb hby at_7) hr
    · show Q0 Z q0 q1  h0 n0 _ s₁.heap _
      rw [e0]
      exact ⟨rfl, N0⟩
  · have K : ∀ target, Steps p.tables e below (s₁.setTop (mkF m 8 #[.val (.long q0), .second, .val (.long q1), .second, .unset, .unset, .unset, .unset, .unset, .unset] [])) target → Steps p.tables e below (s₁.setTop (mkF m 3 #[.val (.long q0), .second, .val (.long q1), .second, .unset, .unset, .unset, .unset, .unset, .unset] [(.int (lcmpW q0 (0 : Int64)))])) target := by
      intro target kt
      refine XS.ifYes X0.here hx rfl (pc0 := 3) (pc' := 8) rfl (hb hby at_3) rfl ((if0 _ _).trans (feq (fun q => hc3_2 ((lw_eq q0 (0 : Int64)).mp q))).2) (by decide) (by decide) ?_
      exact kt
    refine Done.of ?_ K
    obtain ⟨_, _, ⟨T3, L3, k3, n3⟩, -, X3, ⟨Lc3, hQ3, l3, y3, z3⟩, st3⟩ := Jvm.LawKit.callS X0 hx (y := (⟨"com/example/sievecraft/sievecraft/kernel/ExactMath", "magnitudeLessOne", "(J)J"⟩ : MethodName)) hown (mvT hZ (hw _ (List.mem_of_getElem? (i := 0) rfl))) (mvT hZ (hw _ (List.mem_of_getElem? (i := 1) rfl))) (mvT hZ (hw _ (List.mem_of_getElem? (i := 2) rfl))) (mvT hZ (hw _ (List.mem_of_getElem? (i := 3) rfl))) (by decide) (backOf (W := 0) (rm1 l Z a0 hw [] q0 h0 n0 Z0 ) hZ (hw _ (List.mem_of_getElem? (i := 3) rfl)) (hw _ (List.mem_of_getElem? (i := 2) rfl)) (by decide) (by decide)) (g := (mkF m 9 #[.val (.long q0), .second, .val (.long q1), .second, .unset, .unset, .unset, .unset, .unset, .unset] [(.long q0)])) rfl (by rw [hml]; rfl) (argsL := [(.long q0)]) (rest := []) (lenOf pd_0 rfl) rfl (by show 2 * 0 + _ ≤ _; exact Nat.le_of_eq rfl) (hb hby at_9) (fun _ _ => ⟨rfl, e0, (by decide : 0 + 0 ≤ _), (by decide : 0 + 0 ≤ _)⟩)
    dsimp only [Pt.U, Pt.locs, Pt.cells, Pt.slots] at X3 l3 y3 z3 st3 hQ3
    subst l3 y3 z3
    obtain ⟨rfl, N3q, e3⟩ := hQ3
    have N3 := Fr.app N0 N3q
    have J24_4 : ∀ wj : Int32, wj = (if (own_m q0) < (0 : Int64) then (0 : Int32) else (if ((own_m q0) + (1 : Int64)) = q0 then (1 : Int32) else (if ((own_m q0) + (1 : Int64)) = (-q0) then (1 : Int32) else (0 : Int32)))) → ∀ target, Steps p.tables e below (T3.setTop (mkF m 47 #[.val (.long q0), .second, .val (.long q1), .second, .val (.long (own_m q0)), .second, .val (.long ((own_m q0) + (1 : Int64))), .second, .unset, .unset] [(.int wj)])) target → Steps p.tables e below (T3.setTop (mkF m 24 #[.val (.long q0), .second, .val (.long q1), .second, .val (.long (own_m q0)), .second, .val (.long ((own_m q0) + (1 : Int64))), .second, .unset, .unset] [(.int (lcmpW (own_m q0) (0 : Int64)))])) target := by
      intro wj hw0 target kt
      by_cases hj24 : (own_m q0) < (0 : Int64)
      · rw [if_pos hj24] at hw0
        show Steps p.tables e below (T3.setTop (mkF m 24 #[.val (.long q0), .second, .val (.long q1), .second, .val (.long (own_m q0)), .second, .val (.long ((own_m q0) + (1 : Int64))), .second, .unset, .unset] [(.int (lcmpW (own_m q0) (0 : Int64)))])) _
        refine XS.ifYes X3.here hx rfl (pc0 := 24) (pc' := 46) rfl (hb hby at_24) rfl ((if0 _ _).trans (tlt ((lw_lt (own_m q0) (0 : Int64)).mpr hj24)).1) (by decide) (by decide) ?_
        show Steps p.tables e below (T3.setTop (mkF m 46 #[.val (.long q0), .second, .val (.long q1), .second, .val (.long (own_m q0)), .second, .val (.long ((own_m q0) + (1 : Int64))), .second, .unset, .unset] [])) _
        refine XS.iconst X3.here hx rfl (hb hby at_46) ?_
        rw [hw0] at kt
        exact kt
      · rw [if_neg hj24] at hw0
        show Steps p.tables e below (T3.setTop (mkF m 24 #[.val (.long q0), .second, .val (.long q1), .second, .val (.long (own_m q0)), .second, .val (.long ((own_m q0) + (1 : Int64))), .second, .unset, .unset] [(.int (lcmpW (own_m q0) (0 : Int64)))])) _
        refine XS.ifNo X3.here hx rfl (hb hby at_24) rfl ((if0 _ _).trans (flt (fun q => hj24 ((lw_lt (own_m q0) (0 : Int64)).mp q))).1) ?_
        show Steps p.tables e below (T3.setTop (mkF m 27 #[.val (.long q0), .second, .val (.long q1), .second, .val (.long (own_m q0)), .second, .val (.long ((own_m q0) + (1 : Int64))), .second, .unset, .unset] [])) _
        refine XS.lload X3.here hx rfl (hb hby at_27) rfl ?_
        show Steps p.tables e below (T3.setTop (mkF m 29 #[.val (.long q0), .second, .val (.long q1), .second, .val (.long (own_m q0)), .second, .val (.long ((own_m q0) + (1 : Int64))), .second, .unset, .unset] [(.long ((own_m q0) + (1 : Int64)))])) _
        refine XS.lloadN X3.here hx rfl (hb hby at_29) rfl ?_
        show Steps p.tables e below (T3.setTop (mkF m 30 #[.val (.long q0), .second, .val (.long q1), .second, .val (.long (own_m q0)), .second, .val (.long ((own_m q0) + (1 : Int64))), .second, .unset, .unset] [(.long q0), (.long ((own_m q0) + (1 : Int64)))])) _
        refine XS.lcmp X3.here hx rfl (hb hby at_30) rfl ?_
        by_cases hj31 : ((own_m q0) + (1 : Int64)) = q0
        · rw [if_pos hj31] at hw0
          show Steps p.tables e below (T3.setTop (mkF m 31 #[.val (.long q0), .second, .val (.long q1), .second, .val (.long (own_m q0)), .second, .val (.long ((own_m q0) + (1 : Int64))), .second, .unset, .unset] [(.int (lcmpW ((own_m q0) + (1 : Int64)) q0))])) _
          refine XS.ifYes X3.here hx rfl (pc0 := 31) (pc' := 42) rfl (hb hby at_31) rfl ((if0 _ _).trans (teq ((lw_eq ((own_m q0) + (1 : Int64)) q0).mpr hj31)).1) (by decide) (by decide) ?_
          show Steps p.tables e below (T3.setTop (mkF m 42 #[.val (.long q0), .second, .val (.long q1), .second, .val (.long (own_m q0)), .second, .val (.long ((own_m q0) + (1 : Int64))), .second, .unset, .unset] [])) _
          refine XS.iconst X3.here hx rfl (hb hby at_42) ?_
          show Steps p.tables e below (T3.setTop (mkF m 43 #[.val (.long q0), .second, .val (.long q1), .second, .val (.long (own_m q0)), .second, .val (.long ((own_m q0) + (1 : Int64))), .second, .unset, .unset] [(.int (1 : Int32))])) _
          refine XS.goto X3.here hx rfl (pc0 := 43) (pc' := 47) rfl (hb hby at_43) (by decide) (by decide) ?_
          rw [hw0] at kt
          exact kt
        · rw [if_neg hj31] at hw0
          show Steps p.tables e below (T3.setTop (mkF m 31 #[.val (.long q0), .second, .val (.long q1), .second, .val (.long (own_m q0)), .second, .val (.long ((own_m q0) + (1 : Int64))), .second, .unset, .unset] [(.int (lcmpW ((own_m q0) + (1 : Int64)) q0))])) _
          refine XS.ifNo X3.here hx rfl (hb hby at_31) rfl ((if0 _ _).trans (feq (fun q => hj31 ((lw_eq ((own_m q0) + (1 : Int64)) q0).mp q))).1) ?_
          show Steps p.tables e below (T3.setTop (mkF m 34 #[.val (.long q0), .second, .val (.long q1), .second, .val (.long (own_m q0)), .second, .val (.long ((own_m q0) + (1 : Int64))), .second, .unset, .unset] [])) _
          refine XS.lload X3.here hx rfl (hb hby at_34) rfl ?_
          show Steps p.tables e below (T3.setTop (mkF m 36 #[.val (.long q0), .second, .val (.long q1), .second, .val (.long (own_m q0)), .second, .val (.long ((own_m q0) + (1 : Int64))), .second, .unset, .unset] [(.long ((own_m q0) + (1 : Int64)))])) _
          refine XS.lloadN X3.here hx rfl (hb hby at_36) rfl ?_
          show Steps p.tables e below (T3.setTop (mkF m 37 #[.val (.long q0), .second, .val (.long q1), .second, .val (.long (own_m q0)), .second, .val (.long ((own_m q0) + (1 : Int64))), .second, .unset, .unset] [(.long q0), (.long ((own_m q0) + (1 : Int64)))])) _
          refine XS.lneg X3.here hx rfl (hb hby at_37) rfl ?_
          show Steps p.tables e below (T3.setTop (mkF m 38 #[.val (.long q0), .second, .val (.long q1), .second, .val (.long (own_m q0)), .second, .val (.long ((own_m q0) + (1 : Int64))), .second, .unset, .unset] [(.long (-q0)), (.long ((own_m q0) + (1 : Int64)))])) _
          refine XS.lcmp X3.here hx rfl (hb hby at_38) rfl ?_
          by_cases hj39 : ((own_m q0) + (1 : Int64)) = (-q0)
          · rw [if_pos hj39] at hw0
            show Steps p.tables e below (T3.setTop (mkF m 39 #[.val (.long q0), .second, .val (.long q1), .second, .val (.long (own_m q0)), .second, .val (.long ((own_m q0) + (1 : Int64))), .second, .unset, .unset] [(.int (lcmpW ((own_m q0) + (1 : Int64)) (-q0)))])) _
            refine XS.ifNo X3.here hx rfl (hb hby at_39) rfl ((if0 _ _).trans (teq ((lw_eq ((own_m q0) + (1 : Int64)) (-q0)).mpr hj39)).2) ?_
            show Steps p.tables e below (T3.setTop (mkF m 42 #[.val (.long q0), .second, .val (.long q1), .second, .val (.long (own_m q0)), .second, .val (.long ((own_m q0) + (1 : Int64))), .second, .unset, .unset] [])) _
            refine XS.iconst X3.here hx rfl (hb hby at_42) ?_
            show Steps p.tables e below (T3.setTop (mkF m 43 #[.val (.long q0), .second, .val (.long q1), .second, .val (.long (own_m q0)), .second, .val (.long ((own_m q0) + (1 : Int64))), .second, .unset, .unset] [(.int (1 : Int32))])) _
            refine XS.goto X3.here hx rfl (pc0 := 43) (pc' := 47) rfl (hb hby at_43) (by decide) (by decide) ?_
            rw [hw0] at kt
            exact kt
          · rw [if_neg hj39] at hw0
            show Steps p.tables e below (T3.setTop (mkF m 39 #[.val (.long q0), .second, .val (.long q1), .second, .val (.long (own_m q0)), .second, .val (.long ((own_m q0) + (1 : Int64))), .second, .unset, .unset] [(.int (lcmpW ((own_m q0) + (1 : Int64)) (-q0)))])) _
            refine XS.ifYes X3.here hx rfl (pc0 := 39) (pc' := 46) rfl (hb hby at_39) rfl ((if0 _ _).trans (feq (fun q => hj39 ((lw_eq ((own_m q0) + (1 : Int64)) (-q0)).mp q))).2) (by decide) (by decide) ?_
            show Steps p.tables e below (T3.setTop (mkF m 46 #[.val (.long q0), .second, .val (.long q1), .second, .val (.long (own_m q0)), .second, .val (.long ((own_m q0) + (1 : Int64))), .second, .unset, .unset] [])) _
            refine XS.iconst X3.here hx rfl (hb hby at_46) ?_
            rw [hw0] at kt
            exact kt
    have hnz51_5 : q0 ≠ (0 : Int64) := by assumption
    obtain ⟨_, _, ⟨T6, L6, k6, n6⟩, -, X6, ⟨Lc6, hQ6, l6, y6, z6⟩, st6⟩ := Jvm.LawKit.callS X3 hx (y := (⟨"java/lang/Math", "abs", "(J)J"⟩ : MethodName)) hown (mvT hZ (hw _ (List.mem_of_getElem? (i := 4) rfl))) (mvT hZ (hw _ (List.mem_of_getElem? (i := 5) rfl))) (mvT hZ (hw _ (List.mem_of_getElem? (i := 6) rfl))) (mvT hZ (hw _ (List.mem_of_getElem? (i := 7) rfl))) (by decide) (backOf (W := 0) (rm2 l Z a0 hw [] (q1 % q0) h0 n0 Z0 ) hZ (hw _ (List.mem_of_getElem? (i := 7) rfl)) (hw _ (List.mem_of_getElem? (i := 6) rfl)) (by decide) (by decide)) (g := (mkF m 52 #[.val (.long q0), .second, .val (.long q1), .second, .val (.long (own_m q0)), .second, .val (.long ((own_m q0) + (1 : Int64))), .second, .val (.int (if (own_m q0) < (0 : Int64) then (0 : Int32) else (if ((own_m q0) + (1 : Int64)) = q0 then (1 : Int32) else (if ((own_m q0) + (1 : Int64)) = (-q0) then (1 : Int32) else (0 : Int32))))), .unset] [(.long (q1 % q0))])) rfl (by rw [hml]; rfl) (argsL := [(.long (q1 % q0))]) (rest := []) (lenOf pd_0 rfl) rfl (by show 2 * 0 + _ ≤ _; exact Nat.le_of_eq rfl) (hb hby at_52) (fun _ _ => ⟨rfl, e3, (by decide : 0 + 0 ≤ _), (by decide : 0 + 0 ≤ _)⟩)
    dsimp only [Pt.U, Pt.locs, Pt.cells, Pt.slots] at X6 l6 y6 z6 st6 hQ6
    subst l6 y6 z6
    obtain ⟨rfl, N6q, e6⟩ := hQ6
    have N6 := Fr.app N3 N6q
    have J58_7 : ∀ wj : Int32, wj = (if (own_m q0) < (own_a (q1 % q0)) then (0 : Int32) else (1 : Int32)) → ∀ target, Steps p.tables e below (T6.setTop (mkF m 66 #[.val (.long q0), .second, .val (.long q1), .second, .val (.long (own_m q0)), .second, .val (.long ((own_m q0) + (1 : Int64))), .second, .val (.int (if (own_m q0) < (0 : Int64) then (0 : Int32) else (if ((own_m q0) + (1 : Int64)) = q0 then (1 : Int32) else (if ((own_m q0) + (1 : Int64)) = (-q0) then (1 : Int32) else (0 : Int32))))), .unset] [(.int wj)])) target → Steps p.tables e below (T6.setTop (mkF m 58 #[.val (.long q0), .second, .val (.long q1), .second, .val (.long (own_m q0)), .second, .val (.long ((own_m q0) + (1 : Int64))), .second, .val (.int (if (own_m q0) < (0 : Int64) then (0 : Int32) else (if ((own_m q0) + (1 : Int64)) = q0 then (1 : Int32) else (if ((own_m q0) + (1 : Int64)) = (-q0) then (1 : Int32) else (0 : Int32))))), .unset] [(.int (lcmpW (own_a (q1 % q0)) (own_m q0)))])) target := by
      intro wj hw0 target kt
      by_cases hj58 : (own_m q0) < (own_a (q1 % q0))
      · rw [if_pos hj58] at hw0
        show Steps p.tables e below (T6.setTop (mkF m 58 #[.val (.long q0), .second, .val (.long q1), .second, .val (.long (own_m q0)), .second, .val (.long ((own_m q0) + (1 : Int64))), .second, .val (.int (if (own_m q0) < (0 : Int64) then (0 : Int32) else (if ((own_m q0) + (1 : Int64)) = q0 then (1 : Int32) else (if ((own_m q0) + (1 : Int64)) = (-q0) then (1 : Int32) else (0 : Int32))))), .unset] [(.int (lcmpW (own_a (q1 % q0)) (own_m q0)))])) _
        refine XS.ifYes X6.here hx rfl (pc0 := 58) (pc' := 65) rfl (hb hby at_58) rfl ((if0 _ _).trans (tlt ((lw_gt (own_a (q1 % q0)) (own_m q0)).mpr hj58)).2.2.1) (by decide) (by decide) ?_
        refine XS.iconst X6.here hx rfl (hb hby at_65) ?_
        rw [hw0] at kt
        exact kt
      · rw [if_neg hj58] at hw0
        show Steps p.tables e below (T6.setTop (mkF m 58 #[.val (.long q0), .second, .val (.long q1), .second, .val (.long (own_m q0)), .second, .val (.long ((own_m q0) + (1 : Int64))), .second, .val (.int (if (own_m q0) < (0 : Int64) then (0 : Int32) else (if ((own_m q0) + (1 : Int64)) = q0 then (1 : Int32) else (if ((own_m q0) + (1 : Int64)) = (-q0) then (1 : Int32) else (0 : Int32))))), .unset] [(.int (lcmpW (own_a (q1 % q0)) (own_m q0)))])) _
        refine XS.ifNo X6.here hx rfl (hb hby at_58) rfl ((if0 _ _).trans (flt (fun q => hj58 ((lw_gt (own_a (q1 % q0)) (own_m q0)).mp q))).2.2.1) ?_
        show Steps p.tables e below (T6.setTop (mkF m 61 #[.val (.long q0), .second, .val (.long q1), .second, .val (.long (own_m q0)), .second, .val (.long ((own_m q0) + (1 : Int64))), .second, .val (.int (if (own_m q0) < (0 : Int64) then (0 : Int32) else (if ((own_m q0) + (1 : Int64)) = q0 then (1 : Int32) else (if ((own_m q0) + (1 : Int64)) = (-q0) then (1 : Int32) else (0 : Int32))))), .unset] [])) _
        refine XS.iconst X6.here hx rfl (hb hby at_61) ?_
        show Steps p.tables e below (T6.setTop (mkF m 62 #[.val (.long q0), .second, .val (.long q1), .second, .val (.long (own_m q0)), .second, .val (.long ((own_m q0) + (1 : Int64))), .second, .val (.int (if (own_m q0) < (0 : Int64) then (0 : Int32) else (if ((own_m q0) + (1 : Int64)) = q0 then (1 : Int32) else (if ((own_m q0) + (1 : Int64)) = (-q0) then (1 : Int32) else (0 : Int32))))), .unset] [(.int (1 : Int32))])) _
        refine XS.goto X6.here hx rfl (pc0 := 62) (pc' := 66) rfl (hb hby at_62) (by decide) (by decide) ?_
        rw [hw0] at kt
        exact kt
    have J70_8 : ∀ wj : Int32, wj = (if (if (own_m q0) < (0 : Int64) then (0 : Int32) else (if ((own_m q0) + (1 : Int64)) = q0 then (1 : Int32) else (if ((own_m q0) + (1 : Int64)) = (-q0) then (1 : Int32) else (0 : Int32)))) = (0 : Int32) then (0 : Int32) else (if (if (own_m q0) < (own_a (q1 % q0)) then (0 : Int32) else (1 : Int32)) = (0 : Int32) then (0 : Int32) else (1 : Int32))) → ∀ target, Steps p.tables e below (T6.setTop (mkF m 83 #[.val (.long q0), .second, .val (.long q1), .second, .val (.long (own_m q0)), .second, .val (.long ((own_m q0) + (1 : Int64))), .second, .val (.int (if (own_m q0) < (0 : Int64) then (0 : Int32) else (if ((own_m q0) + (1 : Int64)) = q0 then (1 : Int32) else (if ((own_m q0) + (1 : Int64)) = (-q0) then (1 : Int32) else (0 : Int32))))), .val (.int (if (own_m q0) < (own_a (q1 % q0)) then (0 : Int32) else (1 : Int32)))] [(.int wj)])) target → Steps p.tables e below (T6.setTop (mkF m 70 #[.val (.long q0), .second, .val (.long q1), .second, .val (.long (own_m q0)), .second, .val (.long ((own_m q0) + (1 : Int64))), .second, .val (.int (if (own_m q0) < (0 : Int64) then (0 : Int32) else (if ((own_m q0) + (1 : Int64)) = q0 then (1 : Int32) else (if ((own_m q0) + (1 : Int64)) = (-q0) then (1 : Int32) else (0 : Int32))))), .val (.int (if (own_m q0) < (own_a (q1 % q0)) then (0 : Int32) else (1 : Int32)))] [(.int (if (own_m q0) < (0 : Int64) then (0 : Int32) else (if ((own_m q0) + (1 : Int64)) = q0 then (1 : Int32) else (if ((own_m q0) + (1 : Int64)) = (-q0) then (1 : Int32) else (0 : Int32)))))])) target := by
      intro wj hw0 target kt
      by_cases hj70 : (if (own_m q0) < (0 : Int64) then (0 : Int32) else (if ((own_m q0) + (1 : Int64)) = q0 then (1 : Int32) else (if ((own_m q0) + (1 : Int64)) = (-q0) then (1 : Int32) else (0 : Int32)))) = (0 : Int32)
      · rw [if_pos hj70] at hw0
        show Steps p.tables e below (T6.setTop (mkF m 70 #[.val (.long q0), .second, .val (.long q1), .second, .val (.long (own_m q0)), .second, .val (.long ((own_m q0) + (1 : Int64))), .second, .val (.int (if (own_m q0) < (0 : Int64) then (0 : Int32) else (if ((own_m q0) + (1 : Int64)) = q0 then (1 : Int32) else (if ((own_m q0) + (1 : Int64)) = (-q0) then (1 : Int32) else (0 : Int32))))), .val (.int (if (own_m q0) < (own_a (q1 % q0)) then (0 : Int32) else (1 : Int32)))] [(.int (if (own_m q0) < (0 : Int64) then (0 : Int32) else (if ((own_m q0) + (1 : Int64)) = q0 then (1 : Int32) else (if ((own_m q0) + (1 : Int64)) = (-q0) then (1 : Int32) else (0 : Int32)))))])) _
        refine XS.ifYes X6.here hx rfl (pc0 := 70) (pc' := 82) rfl (hb hby at_70) rfl ((if0 _ _).trans (teq hj70).1) (by decide) (by decide) ?_
        refine XS.iconst X6.here hx rfl (hb hby at_82) ?_
        rw [hw0] at kt
        exact kt
      · rw [if_neg hj70] at hw0
        show Steps p.tables e below (T6.setTop (mkF m 70 #[.val (.long q0), .second, .val (.long q1), .second, .val (.long (own_m q0)), .second, .val (.long ((own_m q0) + (1 : Int64))), .second, .val (.int (if (own_m q0) < (0 : Int64) then (0 : Int32) else (if ((own_m q0) + (1 : Int64)) = q0 then (1 : Int32) else (if ((own_m q0) + (1 : Int64)) = (-q0) then (1 : Int32) else (0 : Int32))))), .val (.int (if (own_m q0) < (own_a (q1 % q0)) then (0 : Int32) else (1 : Int32)))] [(.int (if (own_m q0) < (0 : Int64) then (0 : Int32) else (if ((own_m q0) + (1 : Int64)) = q0 then (1 : Int32) else (if ((own_m q0) + (1 : Int64)) = (-q0) then (1 : Int32) else (0 : Int32)))))])) _
        refine XS.ifNo X6.here hx rfl (hb hby at_70) rfl ((if0 _ _).trans (feq hj70).1) ?_
        show Steps p.tables e below (T6.setTop (mkF m 73 #[.val (.long q0), .second, .val (.long q1), .second, .val (.long (own_m q0)), .second, .val (.long ((own_m q0) + (1 : Int64))), .second, .val (.int (if (own_m q0) < (0 : Int64) then (0 : Int32) else (if ((own_m q0) + (1 : Int64)) = q0 then (1 : Int32) else (if ((own_m q0) + (1 : Int64)) = (-q0) then (1 : Int32) else (0 : Int32))))), .val (.int (if (own_m q0) < (own_a (q1 % q0)) then (0 : Int32) else (1 : Int32)))] [])) _
        refine XS.iload X6.here hx rfl (hb hby at_73) rfl ?_
        by_cases hj75 : (if (own_m q0) < (own_a (q1 % q0)) then (0 : Int32) else (1 : Int32)) = (0 : Int32)
        · rw [if_pos hj75] at hw0
          show Steps p.tables e below (T6.setTop (mkF m 75 #[.val (.long q0), .second, .val (.long q1), .second, .val (.long (own_m q0)), .second, .val (.long ((own_m q0) + (1 : Int64))), .second, .val (.int (if (own_m q0) < (0 : Int64) then (0 : Int32) else (if ((own_m q0) + (1 : Int64)) = q0 then (1 : Int32) else (if ((own_m q0) + (1 : Int64)) = (-q0) then (1 : Int32) else (0 : Int32))))), .val (.int (if (own_m q0) < (own_a (q1 % q0)) then (0 : Int32) else (1 : Int32)))] [(.int (if (own_m q0) < (own_a (q1 % q0)) then (0 : Int32) else (1 : Int32)))])) _
          refine XS.ifYes X6.here hx rfl (pc0 := 75) (pc' := 82) rfl (hb hby at_75) rfl ((if0 _ _).trans (teq hj75).1) (by decide) (by decide) ?_
          refine XS.iconst X6.here hx rfl (hb hby at_82) ?_
          rw [hw0] at kt
          exact kt
        · rw [if_neg hj75] at hw0
          show Steps p.tables e below (T6.setTop (mkF m 75 #[.val (.long q0), .second, .val (.long q1), .second, .val (.long (own_m q0)), .second, .val (.long ((own_m q0) + (1 : Int64))), .second, .val (.int (if (own_m q0) < (0 : Int64) then (0 : Int32) else (if ((own_m q0) + (1 : Int64)) = q0 then (1 : Int32) else (if ((own_m q0) + (1 : Int64)) = (-q0) then (1 : Int32) else (0 : Int32))))), .val (.int (if (own_m q0) < (own_a (q1 % q0)) then (0 : Int32) else (1 : Int32)))] [(.int (if (own_m q0) < (own_a (q1 % q0)) then (0 : Int32) else (1 : Int32)))])) _
          refine XS.ifNo X6.here hx rfl (hb hby at_75) rfl ((if0 _ _).trans (feq hj75).1) ?_
          refine XS.iconst X6.here hx rfl (hb hby at_78) ?_
          show Steps p.tables e below (T6.setTop (mkF m 79 #[.val (.long q0), .second, .val (.long q1), .second, .val (.long (own_m q0)), .second, .val (.long ((own_m q0) + (1 : Int64))), .second, .val (.int (if (own_m q0) < (0 : Int64) then (0 : Int32) else (if ((own_m q0) + (1 : Int64)) = q0 then (1 : Int32) else (if ((own_m q0) + (1 : Int64)) = (-q0) then (1 : Int32) else (0 : Int32))))), .val (.int (if (own_m q0) < (own_a (q1 % q0)) then (0 : Int32) else (1 : Int32)))] [(.int (1 : Int32))])) _
          refine XS.goto X6.here hx rfl (pc0 := 79) (pc' := 83) rfl (hb hby at_79) (by decide) (by decide) ?_
          rw [hw0] at kt
          exact kt
    obtain ⟨fs, hr, hrun, hended, hW, hsame⟩ := X6.leave (v := some (.int (nar .boolean (if (if (own_m q0) < (0 : Int64) then (0 : Int32) else (if ((own_m q0) + (1 : Int64)) = q0 then (1 : Int32) else (if ((own_m q0) + (1 : Int64)) = (-q0) then (1 : Int32) else (0 : Int32)))) = (0 : Int32) then (0 : Int32) else (if (if (own_m q0) < (own_a (q1 % q0)) then (0 : Int32) else (1 : Int32)) = (0 : Int32) then (0 : Int32) else (1 : Int32)))))) (fun h => by rw [Bd.returns] at h; cases h)
    refine ⟨_, _, ?_, hrun, hended, _, _, rfl, ?_, ⟨_, rfl⟩, hW, hsame.mono (by decide) (by decide)⟩
    · show Steps p.tables e below (s₁.setTop (mkF m 8 #[.val (.long q0), .second, .val (.long q1), .second, .unset, .unset, .unset, .unset, .unset, .unset] [])) _
      refine XS.lloadN X0.here hx rfl (hb hby at_8) rfl ?_
      show Steps p.tables e below (s₁.setTop (mkF m 9 #[.val (.long q0), .second, .val (.long q1), .second, .unset, .unset, .unset, .unset, .unset, .unset] [(.long q0)])) _
      refine st3 _ ?_
      show Steps p.tables e below (T3.setTop (mkF m 12 #[.val (.long q0), .second, .val (.long q1), .second, .unset, .unset, .unset, .unset, .unset, .unset] [(.long (own_m q0))])) _
      refine XS.lstore X3.here hx rfl (hb hby at_12) rfl (l' := #[.val (.long q0), .second, .val (.long q1), .second, .val (.long (own_m q0)), .second, .unset, .unset, .unset, .unset]) rfl ?_
      show Steps p.tables e below (T3.setTop (mkF m 14 #[.val (.long q0), .second, .val (.long q1), .second, .val (.long (own_m q0)), .second, .unset, .unset, .unset, .unset] [])) _
      refine XS.lload X3.here hx rfl (hb hby at_14) rfl ?_
      show Steps p.tables e below (T3.setTop (mkF m 16 #[.val (.long q0), .second, .val (.long q1), .second, .val (.long (own_m q0)), .second, .unset, .unset, .unset, .unset] [(.long (own_m q0))])) _
      refine XS.lconst X3.here hx rfl (hb hby at_16) ?_
      show Steps p.tables e below (T3.setTop (mkF m 17 #[.val (.long q0), .second, .val (.long q1), .second, .val (.long (own_m q0)), .second, .unset, .unset, .unset, .unset] [(.long (1 : Int64)), (.long (own_m q0))])) _
      refine XS.ladd X3.here hx rfl (hb hby at_17) rfl ?_
      show Steps p.tables e below (T3.setTop (mkF m 18 #[.val (.long q0), .second, .val (.long q1), .second, .val (.long (own_m q0)), .second, .unset, .unset, .unset, .unset] [(.long ((own_m q0) + (1 : Int64)))])) _
      refine XS.lstore X3.here hx rfl (hb hby at_18) rfl (l' := #[.val (.long q0), .second, .val (.long q1), .second, .val (.long (own_m q0)), .second, .val (.long ((own_m q0) + (1 : Int64))), .second, .unset, .unset]) rfl ?_
      show Steps p.tables e below (T3.setTop (mkF m 20 #[.val (.long q0), .second, .val (.long q1), .second, .val (.long (own_m q0)), .second, .val (.long ((own_m q0) + (1 : Int64))), .second, .unset, .unset] [])) _
      refine XS.lload X3.here hx rfl (hb hby at_20) rfl ?_
      show Steps p.tables e below (T3.setTop (mkF m 22 #[.val (.long q0), .second, .val (.long q1), .second, .val (.long (own_m q0)), .second, .val (.long ((own_m q0) + (1 : Int64))), .second, .unset, .unset] [(.long (own_m q0))])) _
      refine XS.lconst X3.here hx rfl (hb hby at_22) ?_
      show Steps p.tables e below (T3.setTop (mkF m 23 #[.val (.long q0), .second, .val (.long q1), .second, .val (.long (own_m q0)), .second, .val (.long ((own_m q0) + (1 : Int64))), .second, .unset, .unset] [(.long (0 : Int64)), (.long (own_m q0))])) _
      refine XS.lcmp X3.here hx rfl (hb hby at_23) rfl ?_
      show Steps p.tables e below (T3.setTop (mkF m 24 #[.val (.long q0), .second, .val (.long q1), .second, .val (.long (own_m q0)), .second, .val (.long ((own_m q0) + (1 : Int64))), .second, .unset, .unset] [(.int (lcmpW (own_m q0) (0 : Int64)))])) _
      refine J24_4 _ rfl _ ?_
      show Steps p.tables e below (T3.setTop (mkF m 47 #[.val (.long q0), .second, .val (.long q1), .second, .val (.long (own_m q0)), .second, .val (.long ((own_m q0) + (1 : Int64))), .second, .unset, .unset] [(.int (if (own_m q0) < (0 : Int64) then (0 : Int32) else (if ((own_m q0) + (1 : Int64)) = q0 then (1 : Int32) else (if ((own_m q0) + (1 : Int64)) = (-q0) then (1 : Int32) else (0 : Int32)))))])) _
      refine XS.istore X3.here hx rfl (hb hby at_47) rfl (l' := #[.val (.long q0), .second, .val (.long q1), .second, .val (.long (own_m q0)), .second, .val (.long ((own_m q0) + (1 : Int64))), .second, .val (.int (if (own_m q0) < (0 : Int64) then (0 : Int32) else (if ((own_m q0) + (1 : Int64)) = q0 then (1 : Int32) else (if ((own_m q0) + (1 : Int64)) = (-q0) then (1 : Int32) else (0 : Int32))))), .unset]) rfl ?_
      refine XS.lloadN X3.here hx rfl (hb hby at_49) rfl ?_
      refine XS.lloadN X3.here hx rfl (hb hby at_50) rfl ?_
      refine Jvm.RoadKit.lremM X3 hx rfl (hb hby at_51) rfl hnz51_5 ?_
      show Steps p.tables e below (T3.setTop (mkF m 52 #[.val (.long q0), .second, .val (.long q1), .second, .val (.long (own_m q0)), .second, .val (.long ((own_m q0) + (1 : Int64))), .second, .val (.int (if (own_m q0) < (0 : Int64) then (0 : Int32) else (if ((own_m q0) + (1 : Int64)) = q0 then (1 : Int32) else (if ((own_m q0) + (1 : Int64)) = (-q0) then (1 : Int32) else (0 : Int32))))), .unset] [(.long (q1 % q0))])) _
      refine st6 _ ?_
      refine XS.lload X6.here hx rfl (hb hby at_55) rfl ?_
      refine XS.lcmp X6.here hx rfl (hb hby at_57) rfl ?_
      show Steps p.tables e below (T6.setTop (mkF m 58 #[.val (.long q0), .second, .val (.long q1), .second, .val (.long (own_m q0)), .second, .val (.long ((own_m q0) + (1 : Int64))), .second, .val (.int (if (own_m q0) < (0 : Int64) then (0 : Int32) else (if ((own_m q0) + (1 : Int64)) = q0 then (1 : Int32) else (if ((own_m q0) + (1 : Int64)) = (-q0) then (1 : Int32) else (0 : Int32))))), .unset] [(.int (lcmpW (own_a (q1 % q0)) (own_m q0)))])) _
      refine J58_7 _ rfl _ ?_
      refine XS.istore X6.here hx rfl (hb hby at_66) rfl (l' := #[.val (.long q0), .second, .val (.long q1), .second, .val (.long (own_m q0)), .second, .val (.long ((own_m q0) + (1 : Int64))), .second, .val (.int (if (own_m q0) < (0 : Int64) then (0 : Int32) else (if ((own_m q0) + (1 : Int64)) = q0 then (1 : Int32) else (if ((own_m q0) + (1 : Int64)) = (-q0) then (1 : Int32) else (0 : Int32))))), .val (.int (if (own_m q0) < (own_a (q1 % q0)) then (0 : Int32) else (1 : Int32)))]) rfl ?_
      refine XS.iload X6.here hx rfl (hb hby at_68) rfl ?_
      show Steps p.tables e below (T6.setTop (mkF m 70 #[.val (.long q0), .second, .val (.long q1), .second, .val (.long (own_m q0)), .second, .val (.long ((own_m q0) + (1 : Int64))), .second, .val (.int (if (own_m q0) < (0 : Int64) then (0 : Int32) else (if ((own_m q0) + (1 : Int64)) = q0 then (1 : Int32) else (if ((own_m q0) + (1 : Int64)) = (-q0) then (1 : Int32) else (0 : Int32))))), .val (.int (if (own_m q0) < (own_a (q1 % q0)) then (0 : Int32) else (1 : Int32)))] [(.int (if (own_m q0) < (0 : Int64) then (0 : Int32) else (if ((own_m q0) + (1 : Int64)) = q0 then (1 : Int32) else (if ((own_m q0) + (1 : Int64)) = (-q0) then (1 : Int32) else (0 : Int32)))))])) _
      refine J70_8 _ rfl _ ?_
      show Steps p.tables e below (T6.setTop (mkF m 83 #[.val (.long q0), .second, .val (.long q1), .second, .val (.long (own_m q0)), .second, .val (.long ((own_m q0) + (1 : Int64))), .second, .val (.int (if (own_m q0) < (0 : Int64) then (0 : Int32) else (if ((own_m q0) + (1 : Int64)) = q0 then (1 : Int32) else (if ((own_m q0) + (1 : Int64)) = (-q0) then (1 : Int32) else (0 : Int32))))), .val (.int (if (own_m q0) < (own_a (q1 % q0)) then (0 : Int32) else (1 : Int32)))] [(.int (if (if (own_m q0) < (0 : Int64) then (0 : Int32) else (if ((own_m q0) + (1 : Int64)) = q0 then (1 : Int32) else (if ((own_m q0) + (1 : Int64)) = (-q0) then (1 : Int32) else (0 : Int32)))) = (0 : Int32) then (0 : Int32) else (if (if (own_m q0) < (own_a (q1 % q0)) then (0 : Int32) else (1 : Int32)) = (0 : Int32) then (0 : Int32) else (1 : Int32))))])) _
      exact retN X6 hx (t := .boolean) Bd.returns (by simp) (hb hby at_83) hr
    · show Q0 Z q0 q1  h0 n0 _ T6.heap _
      rw [e6]
      refine ⟨?_, N6⟩
      have u1 := own_ex hc3_2
      have u2 := own_bd q1 hc3_2
      rcases u1 with ⟨u3, u4 | u4⟩ <;> simp [u2, u3, u4, nar]
set_option maxRecDepth 65536 in
set_option maxHeartbeats 40000000 in
theorem comes_1 {Post : Tables → Env → Array Value → State → Outcome → State → Prop} (hpost : ∀ tb e args s v u, (limb_1_1.after args s (.returned v) u = true ∧ limb_1_2.after args s (.returned v) u = true ∧ True) → FrameEnd s (.returned v) u (Jvm.fieldLocs frame_1_writes args s ++ Jvm.arrayLocs frame_1_arrays args s ++ Jvm.staticLocs frame_1_statics s) 0 0 → Post tb e args s (.returned v) u) :
    ArmFor flags0 classFile x code maxLocals ret World_1 tables_1 room_1 Calls_1 rest_1 Pre_1 Post := by
  intro l hfl _ _ p e ha hc hk s m args below hf hA hF happ hP
  obtain ⟨hcalls, hrest, hpre⟩ := hP
  obtain ⟨-, -, -, hnamed, -, -, -, hat⟩ := (Spec.applies_iff hf).mp happ
  obtain ⟨hg, hn⟩ := and_e (Cond.before_iff.mp (show (Jvm.Cond.and given_1 narrow_1).before args s = true from hpre))
  obtain ⟨g1, g2⟩ := and_e hg
  obtain ⟨g3, g4⟩ := and_e g2
  obtain ⟨w0, w1, rfl⟩ : ∃ w0 w1 : Value, args = #[w0, w1] := by
    have hs : args.size = 2 := by simpa [Cond.value, given_1] using g1
    obtain ⟨L⟩ := args
    match L, hs with
    | [w0, w1], _ => exact ⟨w0, w1, rfl⟩
  have hw := fun d (hd : d ∈ tables_1) => atoms_spec (ws := Jvm.Cond.code x code maxLocals ret :: tables_1) hat d (List.mem_cons_of_mem _ hd)
  have hfit : Fit s := fun {y c} hc i hi => by
    obtain ⟨ha, rfl⟩ := Array.getElem?_eq_some_iff.mp hc
    have q := List.all_eq_true.mp ((Array.all_eq_true_iff_forall_mem.mp hF) _ (Array.getElem_mem ha)) i (List.mem_range.mpr hi)
    simpa [Array.getElem?_eq_getElem hi] using q
  obtain ⟨i0, ei0⟩ := isL_v g3
  obtain rfl : w0 = (.long i0) := Option.some.inj ei0
  obtain ⟨i1, ei1⟩ := isL_v g4
  obtain rfl : w1 = (.long i1) := Option.some.inj ei1
  obtain ⟨n, o, h1, h2, h3, _, L, rfl, ⟨rfl, N⟩, hq⟩ := rm0 l s _ hw tables_1 i0 i1  s.heap s.heap.size (Nat.le_refl _)  p e ha hc hk s m _ below hf ((Spec.applies_iff_loose hf).mp happ).1 ⟨rfl, State.Warmed39.refl s, rfl⟩ trivial
  refine ⟨n, _, h1, h2, h3, hpost _ _ _ _ _ _ ⟨Cond.after_iff.mpr rfl, Cond.after_iff.mpr (eq_i res_at (Term.int_eval (1)) rfl), trivial⟩ ⟨hq.1, hq.2.1, (hq.2.2.sift fun y hy => Or.inr (N y hy)).mono (by decide) (by decide)⟩⟩
theorem main_1_1 : Claimed_1_1 := comes_1 fun _ _ _ _ _ _ h hF => ⟨h.1, hF⟩
theorem main_1_2 : Claimed_1_2 := comes_1 fun _ _ _ _ _ _ h hF => ⟨h.2.1, hF⟩
end Jvm.Pilot.@@N@@
namespace Jvm.Pilot.@@N@@
open Jvm Jvm.ClassFile Sem Op Lib Jvm.Free Jvm.Stand Jvm.Pilot.@@N@@.Jvm.D
/-! MADE BY PROGRAM (witnessworld.py) out of the Statement's table words and the real class files: 10 classes; the members and pool entries that the words name. The judged class is class 1, her method 1. -/
namespace start1
open Jvm.ClassFile
def u (s : String) : CpInfo := .utf8 (stringToUtf16 s)
/-- a pool by its gaps: so many unusable entries, then the entry; so many at the end -/
def gap : Nat → List CpInfo → List CpInfo
  | 0, r => r
  | n + 1, r => .unusable :: gap n r
def poolList (es : List (Nat × CpInfo)) (last : Nat) : List CpInfo := es.foldr (fun e r => gap e.1 (e.2 :: r)) (gap last [])
def pool (es : List (Nat × CpInfo)) (last : Nat) : Array CpInfo := ⟨poolList es last⟩
def fileOf (pool : Array CpInfo) (this : Nat) (attrs : Array Attribute := #[]) (ms : Array MethodInfo := #[]) (fl : Nat := 33) (sup : Nat := 0) (ifs : Array Nat := #[]) (fds : Array FieldInfo := #[]) : ClassFile where
  minorVersion := 0
  majorVersion := 65
  constantPool := pool
  accessFlags := fl
  thisClass := this
  superClass := sup
  interfaces := ifs
  fields := fds
  methods := ms
  attributes := attrs
def plain (name : String) (sup : Option ClassId) : Class where
  name := name
  kind := .ordinary
  loader := none
  accessFlags := 33
  super := sup
  interfaces := #[]
  cf := none
  fields := #[]
  methods := #[]
  instanceTypes := #[]
  staticTypes := #[]
  resolved := #[]
  callSites := []
  init := .initialized
  statics := none
  mirror := none

def pool0 : Array CpInfo := pool [(5, u "<init>"), (0, u "()V"), (1, .class_ 10), (1, u "java/lang/Object")] 113

def k0m0 : Method := { name := "<init>", desc := "()V", sig := { parameters := [], returnType := none }, accessFlags := 1, code := none }
/-- java/lang/Object -/
def k0 : Class := { plain "java/lang/Object" none with
  accessFlags := 33
  interfaces := #[]
  cf := some (fileOf pool0 8 #[] #[{ accessFlags := 1, nameIndex := 5, descriptorIndex := 6, attributes := #[] }] 33 0 #[] #[])
  fields := #[]
  methods := #[k0m0]
  instanceTypes := #[]
  staticTypes := #[]
  resolved := Array.replicate 124 none
  statics := none }

def pool1 : Array CpInfo := pool [(2, .class_ 4), (1, u "java/lang/Object"), (0, u "<init>"), (0, u "()V"), (0, .methodref 8 9), (0, .class_ 10), (0, .nameAndType 11 12), (0, u "com/example/sievecraft/sievecraft/kernel/ExactMath"), (0, u "magnitudeLessOne"), (0, u "(J)J"), (0, .methodref 14 15), (0, .class_ 16), (0, .nameAndType 17 12), (0, u "java/lang/Math"), (0, u "abs"), (0, .class_ 19), (0, u "com/example/sievecraft/sievecraft/kernel/ExactMathMagnitudeLessOnePinLaw"), (2, u "law"), (0, u "(JJ)Z")] 3

def k1m0 : Method := { name := "<init>", desc := "()V", sig := { parameters := [], returnType := none }, accessFlags := 2, code := none }
def k1c1 : Code := { maxStack := 4, maxLocals := 10, code := code, exceptionTable := #[], attributes := #[] }
def k1m1 : Method := { name := "law", desc := "(JJ)Z", sig := { parameters := [.long, .long], returnType := some .boolean }, accessFlags := 9, code := some k1c1 }
/-- com/example/sievecraft/sievecraft/kernel/ExactMathMagnitudeLessOnePinLaw -/
def k1 : Class := { plain "com/example/sievecraft/sievecraft/kernel/ExactMathMagnitudeLessOnePinLaw" (some 0) with
  accessFlags := 49
  interfaces := #[]
  cf := some (fileOf pool1 18 #[] #[{ accessFlags := 2, nameIndex := 5, descriptorIndex := 6, attributes := #[] }, { accessFlags := 9, nameIndex := 22, descriptorIndex := 23, attributes := #[] }] 49 2 #[] #[])
  fields := #[]
  methods := #[k1m0, k1m1]
  instanceTypes := #[]
  staticTypes := #[]
  resolved := Array.replicate 27 none
  statics := none }

def pool2 : Array CpInfo := pool [(2, .class_ 4), (1, u "java/lang/Object"), (0, u "<init>"), (0, u "()V"), (11, .class_ 20), (1, u "com/example/sievecraft/sievecraft/kernel/ExactMath"), (71, u "(J)J"), (0, u "magnitudeLessOne")] 19

def k2m0 : Method := { name := "<init>", desc := "()V", sig := { parameters := [], returnType := none }, accessFlags := 2, code := none }
def k2c1 : Code := { maxStack := 4, maxLocals := 2, code := prog_69_method_8_code, exceptionTable := #[], attributes := #[] }
def k2m1 : Method := { name := "magnitudeLessOne", desc := "(J)J", sig := { parameters := [.long], returnType := some .long }, accessFlags := 9, code := some k2c1 }
/-- com/example/sievecraft/sievecraft/kernel/ExactMath -/
def k2 : Class := { plain "com/example/sievecraft/sievecraft/kernel/ExactMath" (some 0) with
  accessFlags := 49
  interfaces := #[]
  cf := some (fileOf pool2 18 #[] #[{ accessFlags := 2, nameIndex := 5, descriptorIndex := 6, attributes := #[] }, { accessFlags := 9, nameIndex := 93, descriptorIndex := 92, attributes := #[] }] 49 2 #[] #[])
  fields := #[]
  methods := #[k2m0, k2m1]
  instanceTypes := #[]
  staticTypes := #[]
  resolved := Array.replicate 113 none
  statics := none }

def pool3 : Array CpInfo := pool [(1, .class_ 2), (0, u "java/lang/Math"), (1, .class_ 6), (1, u "java/lang/Object"), (0, u "<init>"), (0, u "()V"), (89, .class_ 100), (1, u "java/lang/Math$RandomNumberGeneratorHolder"), (23, u "abs"), (0, u "(J)J"), (46, u "negativeZeroFloatBits"), (0, u "J"), (2, u "negativeZeroDoubleBits"), (68, u "$assertionsDisabled"), (0, u "Z"), (91, u "twoToTheDoubleScaleDown"), (0, u "D"), (4, u "twoToTheDoubleScaleUp"), (9, u "E"), (3, u "PI"), (2, u "TAU"), (2, u "DEGREES_TO_RADIANS"), (0, u "RADIANS_TO_DEGREES")] 94

def k3m0 : Method := { name := "<init>", desc := "()V", sig := { parameters := [], returnType := none }, accessFlags := 2, code := none }
def k3c1 : Code := { maxStack := 4, maxLocals := 2, code := jdk_29_method_61_code, exceptionTable := #[], attributes := #[] }
def k3m1 : Method := { name := "abs", desc := "(J)J", sig := { parameters := [.long], returnType := some .long }, accessFlags := 9, code := some k3c1 }
/-- java/lang/Math -/
def k3 : Class := { plain "java/lang/Math" (some 0) with
  accessFlags := 49
  interfaces := #[]
  cf := some (fileOf pool3 1 #[.nestMembers #[98]] #[{ accessFlags := 2, nameIndex := 7, descriptorIndex := 8, attributes := #[] }, { accessFlags := 9, nameIndex := 124, descriptorIndex := 125, attributes := #[] }] 49 4 #[] #[{ accessFlags := 25, nameIndex := 354, descriptorIndex := 339, attributes := #[] }, { accessFlags := 25, nameIndex := 358, descriptorIndex := 339, attributes := #[] }, { accessFlags := 25, nameIndex := 361, descriptorIndex := 339, attributes := #[] }, { accessFlags := 26, nameIndex := 364, descriptorIndex := 339, attributes := #[] }, { accessFlags := 26, nameIndex := 365, descriptorIndex := 339, attributes := #[] }, { accessFlags := 26, nameIndex := 172, descriptorIndex := 173, attributes := #[] }, { accessFlags := 26, nameIndex := 176, descriptorIndex := 173, attributes := #[] }, { accessFlags := 8, nameIndex := 344, descriptorIndex := 339, attributes := #[] }, { accessFlags := 8, nameIndex := 338, descriptorIndex := 339, attributes := #[] }, { accessFlags := 4120, nameIndex := 245, descriptorIndex := 246, attributes := #[] }])
  fields := #[{ name := "E", type := .double, accessFlags := 25, slot := 0, constantValue := 0 }, { name := "PI", type := .double, accessFlags := 25, slot := 1, constantValue := 0 }, { name := "TAU", type := .double, accessFlags := 25, slot := 2, constantValue := 0 }, { name := "DEGREES_TO_RADIANS", type := .double, accessFlags := 26, slot := 3, constantValue := 0 }, { name := "RADIANS_TO_DEGREES", type := .double, accessFlags := 26, slot := 4, constantValue := 0 }, { name := "negativeZeroFloatBits", type := .long, accessFlags := 26, slot := 5, constantValue := 0 }, { name := "negativeZeroDoubleBits", type := .long, accessFlags := 26, slot := 6, constantValue := 0 }, { name := "twoToTheDoubleScaleUp", type := .double, accessFlags := 8, slot := 7, constantValue := 0 }, { name := "twoToTheDoubleScaleDown", type := .double, accessFlags := 8, slot := 8, constantValue := 0 }, { name := "$assertionsDisabled", type := .boolean, accessFlags := 4120, slot := 9, constantValue := 0 }]
  methods := #[k3m0, k3m1]
  instanceTypes := #[]
  staticTypes := #[.double, .double, .double, .double, .double, .long, .long, .double, .double, .boolean]
  resolved := Array.replicate 460 none
  statics := none }

def pool4 : Array CpInfo := pool [(1, u "java/lang/Cloneable"), (0, .class_ 1), (0, u "java/lang/Object"), (0, .class_ 3)] 3

/-- java/lang/Cloneable -/
def k4 : Class := { plain "java/lang/Cloneable" (some 0) with
  accessFlags := 1537
  interfaces := #[]
  cf := some (fileOf pool4 2 #[] #[] 1537 4 #[] #[])
  fields := #[]
  methods := #[]
  instanceTypes := #[]
  staticTypes := #[]
  resolved := Array.replicate 8 none
  statics := none }

def pool5 : Array CpInfo := pool [(1, u "java/io/Serializable"), (0, .class_ 1), (0, u "java/lang/Object"), (0, .class_ 3)] 3

/-- java/io/Serializable -/
def k5 : Class := { plain "java/io/Serializable" (some 0) with
  accessFlags := 1537
  interfaces := #[]
  cf := some (fileOf pool5 2 #[] #[] 1537 4 #[] #[])
  fields := #[]
  methods := #[]
  instanceTypes := #[]
  staticTypes := #[]
  resolved := Array.replicate 8 none
  statics := none }

/-- the primitive byte -/
def k6 : Class := { plain "byte" none with kind := .primitive 'B', accessFlags := 0x411 }
/-- [B -/
def k7 : Class := { plain "[B" (some 0) with kind := .array 6 .byte, interfaces := #[4, 5], accessFlags := 1041 }

/-- the primitive int -/
def k8 : Class := { plain "int" none with kind := .primitive 'I', accessFlags := 0x411 }
/-- [I -/
def k9 : Class := { plain "[I" (some 0) with kind := .array 8 .int, interfaces := #[4, 5], accessFlags := 1041 }

def heap : Heap := #[]
def classes : Array Class := #[k0, k1, k2, k3, k4, k5, k6, k7, k8, k9]
def interned : List (Array UInt16 × Addr) := []
def slotsUsed : Nat := 0
def theMethod : MethodId := ⟨1, 1⟩
def args0 : Array Value := #[.long 5, .long 7]
def aboutOver (below : List Frame) : State where
  vm := { classes := classes, interned := interned.toArray }
  heap := heap
  slotsUsed := slotsUsed
  threads := #[{ frames := .invoking theMethod args0 :: below }]
def below0 : List Frame := [.native { method := ⟨0, 0⟩, args := #[] }]
def about1 : State := aboutOver below0
def p0 : Program := .bare "" "" ""
def e0 : Env := launch0.env 0 0 0
theorem w_frames : about1.frames = Frame.invoking theMethod args0 :: below0 := rfl
set_option maxRecDepth 65536 in
theorem w_args : argsFit about1.vm theMethod args0 = true := by decide +kernel
set_option maxRecDepth 65536 in
theorem w_heap : heapFits about1 = true := by decide +kernel
set_option maxRecDepth 65536 in
theorem w_runnable : about1.curStatus? = some .runnable := by decide +kernel
set_option maxRecDepth 65536 in
theorem w_alone : about1.alone = true := by decide +kernel
set_option maxRecDepth 65536 in
theorem w_named : about1.methodNamed? x = some theMethod := by decide +kernel
set_option maxRecDepth 65536 in
theorem w_hears : about1.hears theMethod below0 = true := by decide +kernel
set_option maxRecDepth 65536 in
theorem w_ripe : about1.ripe theMethod args0 below0 = true := by decide +kernel
theorem w_running : about1.status = .running := rfl
set_option maxRecDepth 65536 in
theorem w_room : about1.hasRoom e0.platform room_1 = true :=
  launch0.hasRoom_least _ room_1 (by decide +kernel) (by decide +kernel) (by decide +kernel) (by decide +kernel) (by decide +kernel) (by decide +kernel)
theorem allAtoms_all (ts : List Jvm.Cond) (a : Array Jvm.Value) (st : Jvm.State) : (allAtoms ts).before a st = ts.all (fun c => c.before a st) := by
  induction ts with
  | nil => rfl
  | cons c t ih =>
    show (Jvm.Cond.and c (allAtoms t)).before a st = _
    rw [Jvm.Cond.before_and, ih, List.all_cons]
def words1 : List Jvm.Cond := Jvm.Cond.code x code maxLocals ret :: tables_1
/-- a 'code' word, met by the world's own term for the bytes: nothing is compared byte by byte -/
theorem code_word {y : MethodName} {bytes : ByteArray} {mx : Nat} {rt : Option FieldType} {a : Array Value} {s : State} {m : MethodId} {meth : Method} {c : Code} (h1 : s.methodNamed? y = some m) (h2 : s.vm.method? m = some meth) (h3 : meth.code = some c) (h4 : c.code = bytes)
    (h5 : (c.maxLocals == mx && c.exceptionTable.isEmpty && decide (c.maxStack ≤ mostOperands) && decide (meth.sig.returnType = rt) && !meth.locks && decide (parseMethodDescriptor y.desc = some meth.sig)) = true) : (Jvm.Cond.code y bytes mx rt).before a s = true := by
  simp only [Bool.and_eq_true, beq_iff_eq, Bool.not_eq_true', decide_eq_true_eq] at h5
  obtain ⟨⟨⟨⟨⟨g1, g2⟩, g3⟩, g4⟩, g5⟩, g6⟩ := h5
  simp [Cond.before, Cond.holds, Cond.value, h1, h2, h3, h4, g1, g2, g3, g4, g5, g6]
def isCode : Jvm.Cond → Bool
  | .code _ _ _ _ => true
  | _ => false
theorem all_split {L : List Jvm.Cond} {P : Jvm.Cond → Bool} (h1 : L.all (fun c => isCode c || P c) = true) (h2 : ∀ c ∈ L.filter isCode, P c = true) : L.all P = true := by
  refine List.all_eq_true.mpr fun c hc => ?_
  have h := List.all_eq_true.mp h1 c hc
  rcases Bool.eq_false_or_eq_true (isCode c) with hi | hi
  · exact h2 c (List.mem_filter.mpr ⟨hc, hi⟩)
  · simpa [hi] using h
set_option maxRecDepth 65536 in
theorem w_c0 : (Jvm.Cond.code x code maxLocals ret).before args0 about1 = true := code_word (m := ⟨1, 1⟩) (meth := k1m1) (c := k1c1) (by decide +kernel) rfl rfl rfl (by decide +kernel)
set_option maxRecDepth 65536 in
theorem w_c1 : (Jvm.Cond.code ({ cls := "com/example/sievecraft/sievecraft/kernel/ExactMath", name := "magnitudeLessOne", desc := "(J)J" } : Jvm.MethodName) prog_69_method_8_code (2 : Nat) (Option.some Jvm.ClassFile.FieldType.long)).before args0 about1 = true := code_word (m := ⟨2, 1⟩) (meth := k2m1) (c := k2c1) (by decide +kernel) rfl rfl rfl (by decide +kernel)
set_option maxRecDepth 65536 in
theorem w_c2 : (Jvm.Cond.code ({ cls := "java/lang/Math", name := "abs", desc := "(J)J" } : Jvm.MethodName) jdk_29_method_61_code (2 : Nat) (Option.some Jvm.ClassFile.FieldType.long)).before args0 about1 = true := code_word (m := ⟨3, 1⟩) (meth := k3m1) (c := k3c1) (by decide +kernel) rfl rfl rfl (by decide +kernel)
def codes1 : List Jvm.Cond := [Jvm.Cond.code x code maxLocals ret, Jvm.Cond.code ({ cls := "com/example/sievecraft/sievecraft/kernel/ExactMath", name := "magnitudeLessOne", desc := "(J)J" } : Jvm.MethodName) prog_69_method_8_code (2 : Nat) (Option.some Jvm.ClassFile.FieldType.long), Jvm.Cond.code ({ cls := "java/lang/Math", name := "abs", desc := "(J)J" } : Jvm.MethodName) jdk_29_method_61_code (2 : Nat) (Option.some Jvm.ClassFile.FieldType.long)]
set_option maxRecDepth 65536 in
theorem codes_eq : words1.filter isCode = codes1 := rfl
theorem w_codes : ∀ c ∈ words1.filter isCode, c.before args0 about1 = true := by
  rw [codes_eq]
  intro c hc
  simp only [codes1, List.mem_cons, List.not_mem_nil, or_false] at hc
  rcases hc with rfl | rfl | rfl
  · exact w_c0
  · exact w_c1
  · exact w_c2
set_option maxRecDepth 65536 in
theorem w_t1 : words1.all (fun c => isCode c || c.before args0 about1) = true := by decide +kernel
theorem w_tables : (allAtoms (Jvm.Cond.code x code maxLocals ret :: tables_1)).before args0 about1 = true := by
  rw [allAtoms_all]
  show words1.all (fun c => c.before args0 about1) = true
  refine all_split ?_ w_codes
  rw [w_t1]
set_option maxRecDepth 65536 in
theorem w_case : (Jvm.Cond.and given_1 narrow_1).before args0 about1 = true := by decide +kernel
theorem w_applies : (headSpec (Jvm.Cond.code x code maxLocals ret :: tables_1) room_1).applies x e0.platform about1 = true :=
  (Spec.applies_iff w_frames).mpr ⟨w_running, w_runnable, w_alone, w_named, w_hears, w_ripe, w_room, w_tables⟩
theorem atStart : AtStart classFile x code maxLocals ret World_1 tables_1 room_1 Calls_1 rest_1 Pre_1 launch0 p0 e0 about1 theMethod args0 below0 :=
  ⟨lists_1, trivial, launch0.admits_env _ _ _, launch0.least_env, fairChoices_fair.cas, fairChoices_fair.clock, w_frames, w_args, w_heap, w_applies, trivial, trivial, w_case⟩
end start1
theorem witness_1 : WitnessClaimed_1 := ⟨start1.p0, start1.e0, start1.about1, start1.theMethod, start1.args0, start1.below0, start1.atStart⟩
end Jvm.Pilot.@@N@@
